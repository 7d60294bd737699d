/-
  The builder's first loop, round by round: plain.
-/
import Derived.Test.YbulkipkView
import Derived.WalkKit
namespace Go.Proofs.Ybulkipk
open Go.RowKit
def nm (x : Nat) : ByteArray := if x = 0 then ⟨#[120]⟩ else ⟨#[121]⟩
/-- the numbers of the items: in the order of their first accesses -/
def NS (a b : Int) (items : Nat) : Prop := (a = -1 ∧ b = -1 ∧ items = 0) ∨ (a = 0 ∧ b = -1 ∧ items = 1) ∨ (a = -1 ∧ b = 0 ∧ items = 1) ∨ (a = 0 ∧ b = 1 ∧ items = 2) ∨ (a = 1 ∧ b = 0 ∧ items = 2)
structure Inv1 (K T X : Nat → Nat) (p : Nat) (v : V1) (items : Nat) : Prop where
  ck : ∀ q, q < p → v.ck q = K q % 4
  ct : ∀ q, q < p → v.ct q = T q % 3 + 1
  pf : ∀ q, q < p → v.pf (T q % 3) = true
  it : ∀ q, q < p → K q % 4 ≤ 1 → v.it q = nm (X q % 2)
  oc : ∀ q, q < p → K q % 4 ≤ 1 → v.oc q = v.a (X q % 2) ∧ 0 ≤ v.a (X q % 2)
  on : ∀ q, q < p → ¬ K q % 4 ≤ 1 → v.oc q = -1
  ns : NS (v.a 0) (v.a 1) items
def vbase (v : V1) (p k t : Nat) : V1 := { v with pf := upd v.pf (t % 3) true, ck := upd v.ck p (k % 4), ct := upd v.ct p (t % 3 + 1), oc := upd v.oc p (-1) }
def vnew (v : V1) (p k t x items : Nat) : V1 := { vbase v p k t with a := upd v.a x (items : Int), it := upd v.it p (nm x), oc := upd (upd v.oc p (-1)) p (items : Int) }
def vold (v : V1) (p k t x : Nat) : V1 := { vbase v p k t with it := upd v.it p (nm x), oc := upd (upd v.oc p (-1)) p (v.a x) }
section
variable {K T X : Nat → Nat} {p items : Nat} {v : V1}
theorem upd_cases {α : Type} {f : Nat → α} {p : Nat} {x : α} {q : Nat} {P : α → Prop} (h1 : q = p → P x) (h2 : q ≠ p → P (f q)) : P (upd f p x q) := by
  by_cases e : q = p
  · rw [e, upd_same]; exact h1 e
  · rw [upd_other _ _ e]; exact h2 e
theorem inv_base_pf (h : Inv1 K T X p v items) (q : Nat) (hq : q < p + 1) : upd v.pf (T p % 3) true (T q % 3) = true :=
  upd_cases (P := fun z => z = true) (fun _ => rfl) (fun e => h.pf q (by
    by_cases e2 : q = p
    · subst e2; exact absurd rfl e
    · omega))
theorem inv_no (h : Inv1 K T X p v items) (hk : ¬ K p % 4 ≤ 1) : Inv1 K T X (p + 1) (vbase v p (K p) (T p)) items :=
  ⟨fun q hq => upd_cases (P := fun z => z = K q % 4) (fun e => by rw [e]) (fun e => h.ck q (by omega)),
   fun q hq => upd_cases (P := fun z => z = T q % 3 + 1) (fun e => by rw [e]) (fun e => h.ct q (by omega)),
   fun q hq => inv_base_pf h q hq,
   fun q hq hk' => h.it q (by by_cases e : q = p; (subst e; exact absurd hk' hk); omega) hk',
   fun q hq hk' => by
     have e : q ≠ p := fun e => by subst e; exact hk hk'
     show upd v.oc p (-1) q = v.a (X q % 2) ∧ 0 ≤ v.a (X q % 2)
     rw [upd_other _ _ e]; exact h.oc q (by omega) hk',
   fun q hq hk' => upd_cases (P := fun z => z = -1) (fun _ => rfl) (fun e => h.on q (by omega) hk'),
   h.ns⟩
theorem inv_new (h : Inv1 K T X p v items) (hk : K p % 4 ≤ 1) {x : Nat} (hx : X p % 2 = x) (hn : v.a x < 0) : Inv1 K T X (p + 1) (vnew v p (K p) (T p) x items) (items + 1) := by
  have hx2 : x = 0 ∨ x = 1 := by omega
  refine ⟨fun q hq => upd_cases (P := fun z => z = K q % 4) (fun e => by rw [e]) (fun e => h.ck q (by omega)),
   fun q hq => upd_cases (P := fun z => z = T q % 3 + 1) (fun e => by rw [e]) (fun e => h.ct q (by omega)),
   fun q hq => inv_base_pf h q hq,
   fun q hq hk' => upd_cases (P := fun z => z = nm (X q % 2)) (fun e => by rw [e, hx]) (fun e => h.it q (by omega) hk'),
   fun q hq hk' => ?_,
   fun q hq hk' => ?_, ?_⟩
  · show upd (upd v.oc p (-1)) p (items : Int) q = upd v.a x (items : Int) (X q % 2) ∧ 0 ≤ upd v.a x (items : Int) (X q % 2)
    by_cases e : q = p
    · subst e; rw [upd_same, hx, upd_same]; exact ⟨rfl, by omega⟩
    · obtain ⟨o1, o2⟩ := h.oc q (by omega) hk'
      have ex : X q % 2 ≠ x := fun e2 => by rw [e2] at o2; omega
      rw [upd_other _ _ e, upd_other _ _ e, upd_other _ _ ex]
      exact ⟨o1, o2⟩
  · have e : q ≠ p := fun e => by subst e; exact hk' hk
    show upd (upd v.oc p (-1)) p (items : Int) q = -1
    rw [upd_other _ _ e, upd_other _ _ e]; exact h.on q (by omega) hk'
  · show NS (upd v.a x (items : Int) 0) (upd v.a x (items : Int) 1) (items + 1)
    have hns := h.ns
    rcases hx2 with rfl | rfl
    · rw [upd_same, upd_other _ _ (by omega)]
      unfold NS at hns ⊢
      omega
    · rw [upd_same, upd_other _ _ (by omega)]
      unfold NS at hns ⊢
      omega
theorem inv_old (h : Inv1 K T X p v items) (hk : K p % 4 ≤ 1) {x : Nat} (hx : X p % 2 = x) (hn : ¬ v.a x < 0) : Inv1 K T X (p + 1) (vold v p (K p) (T p) x) items := by
  refine ⟨fun q hq => upd_cases (P := fun z => z = K q % 4) (fun e => by rw [e]) (fun e => h.ck q (by omega)),
   fun q hq => upd_cases (P := fun z => z = T q % 3 + 1) (fun e => by rw [e]) (fun e => h.ct q (by omega)),
   fun q hq => inv_base_pf h q hq,
   fun q hq hk' => upd_cases (P := fun z => z = nm (X q % 2)) (fun e => by rw [e, hx]) (fun e => h.it q (by omega) hk'),
   fun q hq hk' => ?_,
   fun q hq hk' => ?_, h.ns⟩
  · show upd (upd v.oc p (-1)) p (v.a x) q = v.a (X q % 2) ∧ 0 ≤ v.a (X q % 2)
    by_cases e : q = p
    · subst e; rw [upd_same, hx]; exact ⟨rfl, by omega⟩
    · rw [upd_other _ _ e, upd_other _ _ e]; exact h.oc q (by omega) hk'
  · have e : q ≠ p := fun e => by subst e; exact hk' hk
    show upd (upd v.oc p (-1)) p (v.a x) q = -1
    rw [upd_other _ _ e, upd_other _ _ e]; exact h.on q (by omega) hk'
end
section
variable {B n p : Nat} {v : V1} {wr w : World}
/-- the four stores that every round makes -/
def W4 (wr : World) (B p k t : Nat) : World :=
  (((wr.setCell ⟨B + 1, t % 3, none⟩ (.bool true)).setCell ⟨B, p * 3, none⟩ (.int .u8 ((k : Int) % 4))).setCell ⟨B, p * 3 + 1, none⟩ (.int .i64 ((t : Int) % 3 + 1))).setCell ⟨B + 1 + 1 + 1, p, none⟩ (.int .i32 (-1))
theorem view4 (hv : View B n v wr) (hp : p < n) (k t : Nat) : View B n (vbase v p k t) (W4 wr B p k t) := by
  have e1 : ((k : Int) % 4) = ((k % 4 : Nat) : Int) := by omega
  have e2 : ((t : Int) % 3 + 1) = ((t % 3 + 1 : Nat) : Int) := by omega
  unfold W4
  rw [e1, e2]
  exact (((hv.setPf (by omega) true).setCk hp _).setCt hp _).setOc hp _
theorem bel4 (hb : Below B w wr) (k t : Nat) : Below B w (W4 wr B p k t) :=
  (((hb.setCell (p := ⟨B + 1, t % 3, none⟩) (by show B ≤ B + 1; omega) _).setCell (p := ⟨B, p * 3, none⟩) (Nat.le_refl _) _).setCell (p := ⟨B, p * 3 + 1, none⟩) (Nat.le_refl _) _).setCell (p := ⟨B + 1 + 1 + 1, p, none⟩) (by show B ≤ B + 1 + 1 + 1; omega) _
theorem size_set (W : World) (a : Addr) (x : Value) : (W.setCell a x).heap.size = W.heap.size := by simp [World.setCell]
theorem size4 (k t : Nat) : (W4 wr B p k t).heap.size = wr.heap.size := by unfold W4; rw [size_set, size_set, size_set, size_set]
/-- the round's end -/
theorem close1 {K T X : Nat → Nat} {len items' : Nat} {v' : V1} {W' : World} {iv : Int} (hp : p < len) (hV : View B len v' W') (hI : Inv1 K T X (p + 1) v' items') (hB : Below B w W') (hz : B + 4 ≤ W'.heap.size) (hi : iv = (items' : Int)) :
    (∃ (p_1 items_1 : Nat) (v : V1), p_1 ≤ len ∧ Value.int .i64 ((p : Int) + 1) = Value.int .i64 (p_1 : Int) ∧ Value.int .i64 iv = Value.int .i64 (items_1 : Int) ∧ View B len v W' ∧ Inv1 K T X p_1 v items_1 ∧ Below B w W' ∧ B + 4 ≤ W'.heap.size) ∧
    len - (intOf (.int .i64 ((p : Int) + 1))).toNat < len - (intOf (.int .i64 (p : Int))).toNat :=
  ⟨⟨p + 1, items', v', by omega, by go_num, by rw [hi], hV, hI, hB, hz⟩, by simp [intOf]; omega⟩
theorem close_no {K T X : Nat → Nat} {len items : Nat} (hp : p < len) (hv : View B len v wr) (hi : Inv1 K T X p v items) (hb : Below B w wr) (hz : B + 4 ≤ wr.heap.size) (hk : ¬ K p % 4 ≤ 1) (o : Obj) :
    (∃ (p_1 items_1 : Nat) (v : V1), p_1 ≤ len ∧ Value.int .i64 ((p : Int) + 1) = Value.int .i64 (p_1 : Int) ∧ Value.int .i64 (items : Int) = Value.int .i64 (items_1 : Int) ∧ View B len v ((W4 wr B p (K p) (T p)).alloc o) ∧ Inv1 K T X p_1 v items_1 ∧ Below B w ((W4 wr B p (K p) (T p)).alloc o) ∧ B + 4 ≤ ((W4 wr B p (K p) (T p)).alloc o).heap.size) ∧
    len - (intOf (.int .i64 ((p : Int) + 1))).toNat < len - (intOf (.int .i64 (p : Int))).toNat :=
  close1 hp ((view4 hv hp _ _).alloc (by rw [size4]; exact hz) o) (inv_no hi hk) ((bel4 hb _ _).alloc (by rw [size4]; omega) o) (by rw [World.size_alloc, size4]; omega) rfl
theorem close_new {K T X : Nat → Nat} {len items x : Nat} (hp : p < len) (hv : View B len v wr) (hi : Inv1 K T X p v items) (hb : Below B w wr) (hz : B + 4 ≤ wr.heap.size) (hk : K p % 4 ≤ 1) (hx : X p % 2 = x) (hn : v.a x < 0) (o : Obj) :
    (∃ (p_1 items_1 : Nat) (v : V1), p_1 ≤ len ∧ Value.int .i64 ((p : Int) + 1) = Value.int .i64 (p_1 : Int) ∧ Value.int .i64 ((items : Int) + 1) = Value.int .i64 (items_1 : Int) ∧
      View B len v (((((W4 wr B p (K p) (T p)).setCell ⟨B + 1 + 1, x, none⟩ (.int .i32 (items : Int))).setCell ⟨B, p * 3 + 2, none⟩ (.string (nm x))).setCell ⟨B + 1 + 1 + 1, p, none⟩ (.int .i32 (items : Int))).alloc o) ∧ Inv1 K T X p_1 v items_1 ∧
      Below B w (((((W4 wr B p (K p) (T p)).setCell ⟨B + 1 + 1, x, none⟩ (.int .i32 (items : Int))).setCell ⟨B, p * 3 + 2, none⟩ (.string (nm x))).setCell ⟨B + 1 + 1 + 1, p, none⟩ (.int .i32 (items : Int))).alloc o) ∧
      B + 4 ≤ (((((W4 wr B p (K p) (T p)).setCell ⟨B + 1 + 1, x, none⟩ (.int .i32 (items : Int))).setCell ⟨B, p * 3 + 2, none⟩ (.string (nm x))).setCell ⟨B + 1 + 1 + 1, p, none⟩ (.int .i32 (items : Int))).alloc o).heap.size) ∧
    len - (intOf (.int .i64 ((p : Int) + 1))).toNat < len - (intOf (.int .i64 (p : Int))).toNat :=
  close1 hp (((((view4 hv hp _ _).setA (by omega) _).setIt hp _).setOc hp _).alloc (by rw [size_set, size_set, size_set, size4]; exact hz) o) (inv_new hi hk hx hn)
    (((((bel4 hb _ _).setCell (p := ⟨B + 1 + 1, x, none⟩) (by show B ≤ B + 1 + 1; omega) _).setCell (p := ⟨B, p * 3 + 2, none⟩) (Nat.le_refl _) _).setCell (p := ⟨B + 1 + 1 + 1, p, none⟩) (by show B ≤ B + 1 + 1 + 1; omega) _).alloc (by rw [size_set, size_set, size_set, size4]; omega) o)
    (by rw [World.size_alloc, size_set, size_set, size_set, size4]; omega) (by omega)
theorem close_old {K T X : Nat → Nat} {len items x : Nat} (hp : p < len) (hv : View B len v wr) (hi : Inv1 K T X p v items) (hb : Below B w wr) (hz : B + 4 ≤ wr.heap.size) (hk : K p % 4 ≤ 1) (hx : X p % 2 = x) (hn : ¬ v.a x < 0) (o : Obj) :
    (∃ (p_1 items_1 : Nat) (v_1 : V1), p_1 ≤ len ∧ Value.int .i64 ((p : Int) + 1) = Value.int .i64 (p_1 : Int) ∧ Value.int .i64 (items : Int) = Value.int .i64 (items_1 : Int) ∧
      View B len v_1 ((((W4 wr B p (K p) (T p)).setCell ⟨B, p * 3 + 2, none⟩ (.string (nm x))).setCell ⟨B + 1 + 1 + 1, p, none⟩ (.int .i32 (v.a x))).alloc o) ∧ Inv1 K T X p_1 v_1 items_1 ∧
      Below B w ((((W4 wr B p (K p) (T p)).setCell ⟨B, p * 3 + 2, none⟩ (.string (nm x))).setCell ⟨B + 1 + 1 + 1, p, none⟩ (.int .i32 (v.a x))).alloc o) ∧
      B + 4 ≤ ((((W4 wr B p (K p) (T p)).setCell ⟨B, p * 3 + 2, none⟩ (.string (nm x))).setCell ⟨B + 1 + 1 + 1, p, none⟩ (.int .i32 (v.a x))).alloc o).heap.size) ∧
    len - (intOf (.int .i64 ((p : Int) + 1))).toNat < len - (intOf (.int .i64 (p : Int))).toNat :=
  close1 hp ((((view4 hv hp _ _).setIt hp _).setOc hp _).alloc (by rw [size_set, size_set, size4]; exact hz) o) (inv_old hi hk hx hn)
    ((((bel4 hb _ _).setCell (p := ⟨B, p * 3 + 2, none⟩) (Nat.le_refl _) _).setCell (p := ⟨B + 1 + 1 + 1, p, none⟩) (by show B ≤ B + 1 + 1 + 1; omega) _).alloc (by rw [size_set, size_set, size4]; omega) o)
    (by rw [World.size_alloc, size_set, size_set, size4]; omega) rfl
end
end Go.Proofs.Ybulkipk
