/-
  The contract of the builder (function 8): an Index in new memory whose data are good.
-/
import Derived.Test.YbulkipkModel
import Derived.Deep.OwnRows
import Derived.Test.YbulkipkBst
namespace Go.Proofs.Ybulkipk
open Go.ChangeShapes Go.WideShapes Go.ChangeAt Go.RowKit
theorem info64 : (Yba.prog.info? 64).map (fun i => (i.zero, i.size, i.bytes)) = some (some (.agg #[.int .u8 0, .int .i64 0, .string ⟨#[]⟩]), 3, 32) := by kernel_rfl
theorem make45 (w : World) (n : Nat) (h : n ≤ 300) : (Instr.makeSlice 45 (.int .i64 (n : Int)) (.int .i64 (n : Int))).run Yba.prog w = .ok (.slice (some ⟨w.heap.size, 0, none⟩) n n) (w.alloc (.cells (madeCells #[.int .u8 0, .int .i64 0, .string ⟨#[]⟩] (n * 3)) 64)) := by
  have h26 := info64
  cases hq : Yba.prog.info? 64 with
  | none => simp [hq] at h26
  | some i =>
    simp only [hq, Option.map_some, Option.some.injEq, Prod.mk.injEq] at h26
    obtain ⟨hz, hs, hb⟩ := h26
    have hr := run_make (P := Yba.prog) w 45 64 i _ Yba.underlying45 hq hz .i64 .i64 n n (by omega) (by omega) (by rw [hb]; omega) (by omega)
    simp only [Int.toNat_natCast, hs] at hr
    exact hr
theorem info21' : (Yba.prog.info? 21).map (fun i => (i.zero, i.size, i.bytes)) = some (some (.int .i32 0), 1, 4) := by kernel_rfl
theorem made3 (len q : Nat) (hq : q < len) (x y z : Value) : (madeCells #[x, y, z] (len * 3))[q * 3]? = some x ∧ (madeCells #[x, y, z] (len * 3))[q * 3 + 1]? = some y ∧ (madeCells #[x, y, z] (len * 3))[q * 3 + 2]? = some z := by
  have e0 : q * 3 % 3 = 0 := by omega
  have e1 : (q * 3 + 1) % 3 = 1 := by omega
  have e2 : (q * 3 + 2) % 3 = 2 := by omega
  have l0 : q * 3 < len * 3 := by omega
  have l1 : q * 3 + 1 < len * 3 := by omega
  have l2 : q * 3 + 2 < len * 3 := by omega
  refine ⟨?_, ?_, ?_⟩
  · simp [madeCells, l0, e0]
  · simp [madeCells, l1, e1]
  · simp [madeCells, l2, e2]
def v0 : V1 := { ck := fun _ => 0, ct := fun _ => 0, it := fun _ => ⟨#[]⟩, pf := fun _ => false, a := fun _ => -1, oc := fun _ => 0 }
theorem view_start (w : World) (len : Nat) : View w.heap.size len v0 ((((w.alloc (.cells (madeCells #[.int .u8 0, .int .i64 0, .string ⟨#[]⟩] (len * 3)) 64)).alloc (.cells #[.bool false, .bool false, .bool false] 58)).alloc (.cells #[.int .i32 (-1), .int .i32 (-1)] 59)).alloc (.cells (madeCells #[.int .i32 0] len) 21)) := by
  have e0 : ((((w.alloc (.cells (madeCells #[.int .u8 0, .int .i64 0, .string ⟨#[]⟩] (len * 3)) 64)).alloc (.cells #[.bool false, .bool false, .bool false] 58)).alloc (.cells #[.int .i32 (-1), .int .i32 (-1)] 59)).alloc (.cells (madeCells #[.int .i32 0] len) 21)).heap[w.heap.size]? = some (.cells (madeCells #[.int .u8 0, .int .i64 0, .string ⟨#[]⟩] (len * 3)) 64 (0, 0)) := by
    rw [Below.heap_alloc _ _ _ (by simp; omega), Below.heap_alloc _ _ _ (by simp; omega), Below.heap_alloc _ _ _ (by simp)]
    exact World.alloc_heap_new w _
  have e1 : ((((w.alloc (.cells (madeCells #[.int .u8 0, .int .i64 0, .string ⟨#[]⟩] (len * 3)) 64)).alloc (.cells #[.bool false, .bool false, .bool false] 58)).alloc (.cells #[.int .i32 (-1), .int .i32 (-1)] 59)).alloc (.cells (madeCells #[.int .i32 0] len) 21)).heap[w.heap.size + 1]? = some (.cells #[.bool false, .bool false, .bool false] 58 (0, 0)) := by
    rw [Below.heap_alloc _ _ _ (by simp), Below.heap_alloc _ _ _ (by simp)]
    have := World.alloc_heap_new (w.alloc (.cells (madeCells #[.int .u8 0, .int .i64 0, .string ⟨#[]⟩] (len * 3)) 64)) (.cells #[.bool false, .bool false, .bool false] 58)
    rwa [World.size_alloc] at this
  have e2 : ((((w.alloc (.cells (madeCells #[.int .u8 0, .int .i64 0, .string ⟨#[]⟩] (len * 3)) 64)).alloc (.cells #[.bool false, .bool false, .bool false] 58)).alloc (.cells #[.int .i32 (-1), .int .i32 (-1)] 59)).alloc (.cells (madeCells #[.int .i32 0] len) 21)).heap[w.heap.size + 1 + 1]? = some (.cells #[.int .i32 (-1), .int .i32 (-1)] 59 (0, 0)) := by
    rw [Below.heap_alloc _ _ _ (by simp)]
    have := World.alloc_heap_new ((w.alloc (.cells (madeCells #[.int .u8 0, .int .i64 0, .string ⟨#[]⟩] (len * 3)) 64)).alloc (.cells #[.bool false, .bool false, .bool false] 58)) (.cells #[.int .i32 (-1), .int .i32 (-1)] 59)
    rwa [World.size_alloc, World.size_alloc] at this
  have e3 : ((((w.alloc (.cells (madeCells #[.int .u8 0, .int .i64 0, .string ⟨#[]⟩] (len * 3)) 64)).alloc (.cells #[.bool false, .bool false, .bool false] 58)).alloc (.cells #[.int .i32 (-1), .int .i32 (-1)] 59)).alloc (.cells (madeCells #[.int .i32 0] len) 21)).heap[w.heap.size + 1 + 1 + 1]? = some (.cells (madeCells #[.int .i32 0] len) 21 (0, 0)) := by
    have := World.alloc_heap_new (((w.alloc (.cells (madeCells #[.int .u8 0, .int .i64 0, .string ⟨#[]⟩] (len * 3)) 64)).alloc (.cells #[.bool false, .bool false, .bool false] 58)).alloc (.cells #[.int .i32 (-1), .int .i32 (-1)] 59)) (.cells (madeCells #[.int .i32 0] len) 21)
    rwa [World.size_alloc, World.size_alloc, World.size_alloc] at this
  refine ⟨fun q hq => (cell_of_row _ _ _ _ _ _ e0).trans (made3 len q hq _ _ _).1, fun q hq => (cell_of_row _ _ _ _ _ _ e0).trans (made3 len q hq _ _ _).2.1, fun q hq => (cell_of_row _ _ _ _ _ _ e0).trans (made3 len q hq _ _ _).2.2,
    fun t ht => (cell_of_row _ _ _ _ _ _ e1).trans ?_, fun x hx => (cell_of_row _ _ _ _ _ _ e2).trans ?_, fun q hq => (cell_of_row _ _ _ _ _ _ e3).trans (by simp [madeCells, hq, Nat.mod_one]; rfl),
    fun o => frozen_of_row _ _ _ _ _ e0, fun o => frozen_of_row _ _ _ _ _ e1, fun o => frozen_of_row _ _ _ _ _ e2, fun o => frozen_of_row _ _ _ _ _ e3⟩
  · have : t = 0 ∨ t = 1 ∨ t = 2 := by omega
    rcases this with rfl | rfl | rfl <;> rfl
  · have : x = 0 ∨ x = 1 := by omega
    rcases this with rfl | rfl <;> rfl
theorem inv_start (K T X : Nat → Nat) : Inv1 K T X 0 v0 0 :=
  ⟨fun q h => by omega, fun q h => by omega, fun q h => by omega, fun q h => by omega, fun q h => by omega, fun q h => by omega, .inl ⟨rfl, rfl, rfl⟩⟩
theorem one_new (W : World) (n : Nat) (hn : n = W.heap.size) (x : Value) (t : TypeId) (j : Nat) (u : Value) (h : [x][j]? = some u) : (W.alloc (.cells #[x] t)).cell? ((⟨n, 0, none⟩ : Addr).add j) = some u := by
  subst hn
  have hadd : (⟨W.heap.size, 0, none⟩ : Addr).add j = ⟨W.heap.size, j, none⟩ := by unfold Addr.add; split <;> simp_all
  rw [hadd, cell_of_row _ _ _ _ _ _ (World.alloc_heap_new W _)]
  simpa using h
/-- the Index's data at the end -/
def dfin (len m items : Nat) (v : V1) (en ot : Nat → Nat) (ho : Bool) : Dat := { n := len, kind := v.ck, txn := v.ct, item := v.it, ne := m, ends := en, hold := ho, items := items, oT := ot, oI := v.oc }
theorem fin_ix {w wr : World} {v : V1} {len I E O m items : Nat} {ix en ot : Nat → Nat} {ho : Bool} (h4 : S4 w v len I E O m ix en ot wr) (cells : Array Value)
    (c0 : cells[0]? = some (.slice (some ⟨w.heap.size, 0, none⟩) len len)) (c2 : cells[2]? = some (.slice (some ⟨E, 0, none⟩) m m)) (c3 : cells[3]? = some (.bool ho)) (c4 : cells[4]? = some (.int .i64 (items : Int)))
    (c5 : cells[5]? = some (.slice (some ⟨O, 0, none⟩) len len)) (c6 : cells[6]? = some (.slice (some ⟨w.heap.size + 1 + 1 + 1, 0, none⟩) len len)) :
    IxAt (dfin len m items v en ot ho) ⟨wr.heap.size, w.heap.size, E, O, w.heap.size + 1 + 1 + 1⟩ (wr.alloc (.cells cells 78)) := by
  have e : (wr.alloc (.cells cells 78)).heap[wr.heap.size]? = some (.cells cells 78 (0, 0)) := World.alloc_heap_new wr _
  have h := h4.alloc (.cells cells 78)
  exact ⟨(cell_of_row _ _ _ _ _ _ e).trans c0, (cell_of_row _ _ _ _ _ _ e).trans c2, (cell_of_row _ _ _ _ _ _ e).trans c3, (cell_of_row _ _ _ _ _ _ e).trans c4, (cell_of_row _ _ _ _ _ _ e).trans c5, (cell_of_row _ _ _ _ _ _ e).trans c6,
    h.s3.view.ck, h.s3.view.ct, h.s3.view.it, h.s3.enc, h.otc, h.s3.view.oc⟩
theorem nm_ne : nm 0 ≠ nm 1 := by decide
theorem fin_good {K T X : Nat → Nat} {len m items : Nat} {v : V1} {ix en ot : Nat → Nat} {ho : Bool} (hi : Inv1 K T X len v items) (hlen : len ≤ 300) (hen : ∀ x, x < m → en x ≤ len) (hot : ∀ x, x < len → ot x = ix (T x % 3))
    (hix : ∀ j, j < 3 → v.pf j = true → ix j < m) (hm : m ≤ 3) : (dfin len m items v en ot ho).Good := by
  have hns := hi.ns
  have hk : ∀ p, p < len → v.ck p = K p % 4 := hi.ck
  refine ⟨hlen, fun p hp => ?_, fun p hp => ?_, fun p hp => ?_, hen, hm, ?_, fun p hp h => ?_, fun p hp h => ?_, fun p q hp hq h1 h2 => ?_⟩
  · show v.ck p ≤ 3; rw [hk p hp]; omega
  · show v.ct p ≤ 3; rw [hi.ct p hp]; omega
  · show ot p < m; rw [hot p hp]; exact hix _ (by omega) (hi.pf p hp)
  · show items ≤ 2
    unfold NS at hns; omega
  · exact hi.on p hp (by rw [← hk p hp]; exact h)
  · obtain ⟨o1, o2⟩ := hi.oc p hp (by rw [← hk p hp]; exact h)
    show 0 ≤ v.oc p ∧ v.oc p < (items : Int)
    rw [o1]
    refine ⟨o2, ?_⟩
    have hx : X p % 2 = 0 ∨ X p % 2 = 1 := by omega
    unfold NS at hns
    rcases hx with e | e <;> rw [e] at o2 ⊢ <;> omega
  · have k1 : K p % 4 ≤ 1 := by rw [← hk p hp]; exact h1
    have k2 : K q % 4 ≤ 1 := by rw [← hk q hq]; exact h2
    obtain ⟨o1, o2⟩ := hi.oc p hp k1
    obtain ⟨o3, o4⟩ := hi.oc q hq k2
    show v.oc p = v.oc q ↔ v.it p = v.it q
    rw [o1, o3, hi.it p hp k1, hi.it q hq k2]
    have hx : X p % 2 = 0 ∨ X p % 2 = 1 := by omega
    have hy : X q % 2 = 0 ∨ X q % 2 = 1 := by omega
    unfold NS at hns
    rcases hx with e | e <;> rcases hy with e' | e' <;> rw [e] at o2 ⊢ <;> rw [e'] at o4 ⊢
    · simp
    · exact ⟨fun h => by omega, fun h => absurd h nm_ne⟩
    · exact ⟨fun h => by omega, fun h => absurd h.symm nm_ne⟩
    · simp
set_option maxRecDepth 100000 in
set_option maxHeartbeats 1000000 in
theorem build_any (w : World) (b off len cap : Nat) (K X T : Nat → Nat) (hlen : len ≤ 300) (hb : b < w.heap.size)
    (hk : ∀ p, p < len → w.cell? ⟨b, off + p * 3, none⟩ = some (.int .u8 (K p : Int)) ∧ w.cell? ⟨b, off + p * 3 + 1, none⟩ = some (.int .u8 (T p : Int)) ∧ w.cell? ⟨b, off + p * 3 + 2, none⟩ = some (.int .u8 (X p : Int))) :
    Calls Yba.prog 8 #[.slice (some ⟨b, off, none⟩) len cap] w fun e w' => ∃ (d : Dat) (R : Blk), e = .returned (.pointer (some ⟨R.b, 0, none⟩)) ∧ d.Good ∧ d.n = len ∧ IxAt d R w' ∧ Below w.heap.size w w' ∧ ∀ k, R.has k → w.heap.size ≤ k ∧ k < w'.heap.size := by
  have hmk1 := fun w => make45 w len hlen
  have hmk2 := run_make_row' (P := Yba.prog) 46 21 (.int .i32 0) 4 Yba.underlying46 info21' rfl .i64 .i64 len (by omega) (by omega)
  have HKX : Hid _ := hk
  clear hk
  obtain ⟨i0, hi0, hz0, hz1, hz2⟩ := info_parts info3
  go_enter Yba.func8, Yba.ntmps8
  go_wp2_with fail
  clear hmk1 hmk2
  go_loopw [34, 7] (fun i it wr => ∃ (p items : Nat) (v : V1), p ≤ len ∧ i = .int .i64 p ∧ it = .int .i64 items ∧ View w.heap.size len v wr ∧ Inv1 K T X p v items ∧ Below w.heap.size w wr ∧ w.heap.size + 4 ≤ wr.heap.size) (fun i _ _ => len - (intOf i).toNat)
  case atStart => exact ⟨0, 0, v0, Nat.zero_le _, rfl, rfl, view_start w len, inv_start K T X, ((((Below.refl _ w).alloc (Nat.le_refl _) _).alloc (by simp) _).alloc (by simp; omega) _).alloc (by simp; omega) _, by simp⟩
  case round =>
    obtain ⟨p, items, v, hp, rfl, rfl, hv, hi, hbel, hz⟩ := hrel
    by_cases hpn : p < len
    · obtain ⟨g1, g2, g3⟩ := HKX.out p hpn
      have h1 : wr.cell? ⟨b, off + p * 3, none⟩ = some (.int .u8 (K p : Int)) := (hbel.cell (p := ⟨b, off + p * 3, none⟩) hb).trans g1
      have h2 : wr.cell? ⟨b, off + p * 3 + 1, none⟩ = some (.int .u8 (T p : Int)) := (hbel.cell (p := ⟨b, off + p * 3 + 1, none⟩) hb).trans g2
      have h3 : wr.cell? ⟨b, off + p * 3 + 2, none⟩ = some (.int .u8 (X p : Int)) := (hbel.cell (p := ⟨b, off + p * 3 + 2, none⟩) hb).trans g3
      have s0 : w.heap.size < wr.heap.size := by omega
      have s1 : w.heap.size + 1 < wr.heap.size := by omega
      have s2 : w.heap.size + 1 + 1 < wr.heap.size := by omega
      have s3 : w.heap.size + 1 + 1 + 1 < wr.heap.size := by omega
      have v1 := hv.ck p hpn
      have v2 := hv.ct p hpn
      have v3 := hv.it p hpn
      have v4 := hv.pf (T p % 3) (by omega)
      have v6 := hv.oc p hpn
      have w0 := hv.f0 (p * 3)
      have w1 := hv.f0 (p * 3 + 1)
      have w2 := hv.f0 (p * 3 + 2)
      have w3 := hv.f1 (T p % 3)
      have w4 := hv.f3 p
      have HV : Hid _ := hv
      have HI : Hid _ := hi
      have HB : Hid _ := hbel
      clear hv hi hbel g1 g2 g3
      by_cases hk : K p % 4 ≤ 1
      · have hit2 : items ≤ 2 := by rcases HI.out.ns with h | h | h | h | h <;> omega
        by_cases hk0 : K p % 4 = 0
        · have k0 : ((K p : Int) % 4 == 0) = true := beq_iff_eq.2 (by omega)
          clear hk0
          by_cases hx : X p % 2 = 0
          · have hx0 : (X p : Int) % 2 = 0 := by omega
            have v5 := HV.out.a 0 (by omega)
            have w5 := HV.out.f2 0
            by_cases hneg : v.a 0 < 0
            · have HX : Hid _ := hx
              clear hx
              go_wp2_with fail
              exact close_new hpn HV.out HI.out HB.out hz hk HX.out hneg _
            · have HX : Hid _ := hx
              clear hx
              go_wp2_with fail
              exact close_old hpn HV.out HI.out HB.out hz hk HX.out hneg _
          · have hx : X p % 2 = 1 := by omega
            have hx0 : (X p : Int) % 2 = 1 := by omega
            have v5 := HV.out.a 1 (by omega)
            have w5 := HV.out.f2 1
            by_cases hneg : v.a 1 < 0
            · have HX : Hid _ := hx
              clear hx
              go_wp2_with fail
              exact close_new hpn HV.out HI.out HB.out hz hk HX.out hneg _
            · have HX : Hid _ := hx
              clear hx
              go_wp2_with fail
              exact close_old hpn HV.out HI.out HB.out hz hk HX.out hneg _
        · have k0 : ((K p : Int) % 4 == 0) = false := beq_eq_false_iff_ne.2 (by omega)
          have k1 : ((K p : Int) % 4 == 1) = true := beq_iff_eq.2 (by omega)
          clear hk0
          by_cases hx : X p % 2 = 0
          · have hx0 : (X p : Int) % 2 = 0 := by omega
            have v5 := HV.out.a 0 (by omega)
            have w5 := HV.out.f2 0
            by_cases hneg : v.a 0 < 0
            · have HX : Hid _ := hx
              clear hx
              go_wp2_with fail
              exact close_new hpn HV.out HI.out HB.out hz hk HX.out hneg _
            · have HX : Hid _ := hx
              clear hx
              go_wp2_with fail
              exact close_old hpn HV.out HI.out HB.out hz hk HX.out hneg _
          · have hx : X p % 2 = 1 := by omega
            have hx0 : (X p : Int) % 2 = 1 := by omega
            have v5 := HV.out.a 1 (by omega)
            have w5 := HV.out.f2 1
            by_cases hneg : v.a 1 < 0
            · have HX : Hid _ := hx
              clear hx
              go_wp2_with fail
              exact close_new hpn HV.out HI.out HB.out hz hk HX.out hneg _
            · have HX : Hid _ := hx
              clear hx
              go_wp2_with fail
              exact close_old hpn HV.out HI.out HB.out hz hk HX.out hneg _
      · have k0 : ((K p : Int) % 4 == 0) = false := beq_eq_false_iff_ne.2 (by omega)
        have k1 : ((K p : Int) % 4 == 1) = false := beq_eq_false_iff_ne.2 (by omega)
        go_wp2_with fail
        exact close_no hpn HV.out HI.out HB.out hz hk _
    · obtain rfl : p = len := by omega
      have HV : Hid _ := hv
      have HI : Hid _ := hi
      have HB : Hid _ := hbel
      have hit2 : items ≤ 2 := by rcases hi.ns with h | h | h | h | h <;> omega
      clear hv hi hbel
      obtain ⟨wo, hwo⟩ : ∃ wo : World, wo = wr := ⟨_, rfl⟩
      rw [← hwo] at HV HB hz ⊢
      clear hwo
      go_wp2_with fail
      go_loopw [16, 15] (fun i o wr => ∃ (t m : Nat) (tv : Value) (ix : Nat → Nat), t ≤ 3 ∧ i = .int .i64 t ∧ o = tv ∧ S2 w v p wo.heap.size t m tv ix wr) (fun i _ _ => 3 - (intOf i).toNat)
      case atStart =>
        refine ⟨0, 0, _, fun _ => 0, by omega, rfl, rfl, (HV.out.alloc (by omega) _).alloc (by simp; omega) _, (HB.out.alloc (by omega) _).alloc (by simp; omega) _, ⟨[], rfl, .inr ⟨wo.heap.size + 1, 0, #[], rfl, Nat.le_refl _, ?_, Nat.le_refl _, Nat.zero_le _, rfl, rfl⟩⟩, ?_, ?_, fun j hj => by omega, Nat.le_refl _, by omega, by simp⟩
        · have := World.alloc_heap_new (wo.alloc (.cells #[.int .i64 0, .int .i64 0, .int .i64 0] 65)) (.cells #[] 3)
          rwa [World.size_alloc] at this
        · intro j hj
          have e : ((wo.alloc (.cells #[.int .i64 0, .int .i64 0, .int .i64 0] 65)).alloc (.cells #[] 3)).heap[wo.heap.size]? = some (.cells #[.int .i64 0, .int .i64 0, .int .i64 0] 65 (0, 0)) := by
            rw [Below.heap_alloc _ _ _ (by simp)]; exact World.alloc_heap_new wo _
          rw [cell_of_row _ _ _ _ _ _ e]
          have : j = 0 ∨ j = 1 ∨ j = 2 := by omega
          rcases this with rfl | rfl | rfl <;> rfl
        · intro o
          have e : ((wo.alloc (.cells #[.int .i64 0, .int .i64 0, .int .i64 0] 65)).alloc (.cells #[] 3)).heap[wo.heap.size]? = some (.cells #[.int .i64 0, .int .i64 0, .int .i64 0] 65 (0, 0)) := by
            rw [Below.heap_alloc _ _ _ (by simp)]; exact World.alloc_heap_new wo _
          exact frozen_of_row _ _ _ _ _ e
      case round =>
        clear HV HB
        obtain ⟨t, m, tv, ix, ht, rfl, hov, h2⟩ := hrel
        subst hov
        obtain ⟨xs, hown⟩ := h2.own
        obtain ⟨ta, tcap, htv⟩ := own_form hown
        have hmt := h2.mt
        by_cases ht3 : t < 3
        · have cp := h2.view.pf t ht3
          have ci := h2.ixc t ht3
          have cf := h2.ixf t
          have sI : wo.heap.size < wr.heap.size := by have := h2.sz; omega
          cases hpf : v.pf t with
          | false =>
            rw [hpf] at cp
            have HPF : Hid _ := hpf
            clear hpf
            go_wp2_with fail
            exact ⟨⟨t + 1, m, _, ix, by omega, by go_num, rfl, h2.skip HPF.out⟩, by simp [intOf]; omega⟩
          | true =>
            rw [hpf] at cp
            have H2 : Hid _ := h2
            have HOW : Hid _ := hown
            have hsz2 := h2.sz
            clear hpf h2
            rw [htv] at HOW H2 ⊢
            clear htv hown
            go_wp2_with (at_builtin; refine wpList_append_own _ rfl _ _ 25 rfl (wo.heap.size + 1) 3 i0 (.int .i64 0) 1 8 Yba.underlying25 hi0 hz0 hz1 hz2 rfl (by decide) (.slice ta m tcap) m xs rfl ((ownsRow_setCell_below HOW.out (Nat.lt_succ_self _) _).alloc _) ⟨wr.heap.size, 0, none⟩ 1 1 [.int .i64 ((t : Int) + 1)] rfl rfl (one_new _ _ (size_set _ _ _).symm _ _) (by simp [Value.oneCell']) (by unfold maxLen; omega) (by omega) (by rw [World.size_alloc, size_set]; omega) ?_; intro v' w1 hown' hgrow _; have HO1 : Hid _ := hown'; have HG1 : Hid _ := hgrow; clear hown' hgrow)
            exact ⟨⟨t + 1, m + 1, _, upd ix t m, by omega, by go_num, rfl, H2.out.push ht3 _ HO1.out HG1.out⟩, by simp [intOf]; omega⟩
        · obtain rfl : t = 3 := by omega
          have H2 : Hid _ := h2
          have hsz2 := h2.sz
          clear h2 hown
          rw [htv] at H2 ⊢
          clear htv
          obtain ⟨w2, hw2⟩ : ∃ w2 : World, w2 = wr := ⟨_, rfl⟩
          rw [← hw2] at H2 hsz2 ⊢
          clear hw2
          have hmk3 := run_make_row' (P := Yba.prog) 25 3 (.int .i64 0) 8 Yba.underlying25 info3 rfl .i64 .i64 m (by omega) (by omega)
          go_wp2_with fail
          clear hmk3
          go_loopw [121] (fun i wr => ∃ (j : Nat) (en : Nat → Nat), j ≤ m ∧ i = .int .i64 j ∧ (∀ r, r < j → en r = p) ∧ S3 w v p wo.heap.size w2.heap.size m ix en wr) (fun i _ => m - (intOf i).toNat)
          case atStart =>
            have e : (w2.alloc (.cells (madeCells #[.int .i64 0] m) 3)).heap[w2.heap.size]? = some (.cells (madeCells #[.int .i64 0] m) 3 (0, 0)) := World.alloc_heap_new w2 _
            have hlo := H2.out.lo
            refine ⟨0, fun _ => 0, Nat.zero_le _, rfl, fun r hr => by omega, H2.out.view.alloc (by omega) _, H2.out.bel.alloc H2.out.bel.size _, fun j hj => (World.cell?_of_block (a := ⟨wo.heap.size, j, none⟩) (Below.heap_alloc w2 _ wo.heap.size (by omega))).trans (H2.out.ixc j hj), fun j hj => ?_, fun o => frozen_of_row _ _ _ _ _ e, H2.out.lo, by omega, by simp⟩
            rw [cell_of_row _ _ _ _ _ _ e]
            simp [madeCells, hj, Nat.mod_one]
          case round =>
            obtain ⟨j, en, hj, rfl, hen, h3⟩ := hrel
            by_cases hjm : j < m
            · have ce := h3.enc j hjm
              have cf := h3.enf j
              have H3 : Hid _ := h3
              have HEN : Hid _ := hen
              clear h3 hen
              go_wp2_with fail
              refine ⟨⟨j + 1, upd en j p, by omega, by go_num, fun r hr => ?_, H3.out.set hjm p⟩, by simp [intOf]; omega⟩
              exact upd_cases (P := fun z => z = p) (fun _ => rfl) (fun e => HEN.out r (by omega))
            · obtain rfl : j = m := by omega
              have H3 : Hid _ := h3
              have HEN : Hid _ := hen
              have hsz3 := h3.sz
              clear h3 hen
              obtain ⟨w3, hw3⟩ : ∃ w3 : World, w3 = wr := ⟨_, rfl⟩
              rw [← hw3] at H3 hsz3 ⊢
              clear hw3
              have hmk4 := run_make_row' (P := Yba.prog) 46 21 (.int .i32 0) 4 Yba.underlying46 info21' rfl .i64 .i64 p (by omega) (by omega)
              go_wp2_with fail
              clear hmk4
              go_loopw [133, 19] (fun i hd wr => ∃ (r : Nat) (ho : Bool) (en ot : Nat → Nat), r ≤ p ∧ i = .int .i64 r ∧ hd = .bool ho ∧ (∀ x, x < j → en x ≤ p) ∧ (∀ x, x < r → ot x = ix (T x % 3)) ∧ S4 w v p wo.heap.size w2.heap.size w3.heap.size j ix en ot wr) (fun i _ _ => p - (intOf i).toNat)
              case atStart =>
                have e : (w3.alloc (.cells (madeCells #[.int .i32 0] p) 21)).heap[w3.heap.size]? = some (.cells (madeCells #[.int .i32 0] p) 21 (0, 0)) := World.alloc_heap_new w3 _
                refine ⟨0, false, en, fun _ => 0, Nat.zero_le _, rfl, rfl, fun x hx => by rw [HEN.out x hx]; exact Nat.le_refl _, fun x hx => by omega, H3.out.alloc _, fun q hq => ?_, fun o => frozen_of_row _ _ _ _ _ e, hsz3, by simp⟩
                rw [cell_of_row _ _ _ _ _ _ e]
                simp [madeCells, hq, Nat.mod_one]
              case round =>
                clear H3 HEN
                obtain ⟨r, ho, en, ot, hr, rfl, rfl, hen, hot, h4⟩ := hrel
                have H4 : Hid _ := h4
                have HEN : Hid _ := hen
                have HOT : Hid _ := hot
                have hsz4 := h4.sz
                have heo := h4.eo
                have hio := h4.s3.io
                have hlo := h4.s3.lo
                clear h4 hen hot
                by_cases hrp : r < p
                · obtain ⟨g1, g2, g3⟩ := HKX.out r hrp
                  have h1 : wr.cell? ⟨b, off + r * 3, none⟩ = some (.int .u8 (K r : Int)) := (H4.out.s3.bel.cell (p := ⟨b, off + r * 3, none⟩) hb).trans g1
                  have h2 : wr.cell? ⟨b, off + r * 3 + 1, none⟩ = some (.int .u8 (T r : Int)) := (H4.out.s3.bel.cell (p := ⟨b, off + r * 3 + 1, none⟩) hb).trans g2
                  have h3 : wr.cell? ⟨b, off + r * 3 + 2, none⟩ = some (.int .u8 (X r : Int)) := (H4.out.s3.bel.cell (p := ⟨b, off + r * 3 + 2, none⟩) hb).trans g3
                  clear g1 g2 g3
                  have hxm : ix (T r % 3) < j := H2.out.ixl _ (by omega) (HI.out.pf r hrp)
                  have ci := H4.out.s3.ixc (T r % 3) (by omega)
                  have ce := H4.out.s3.enc _ hxm
                  have fe := H4.out.s3.enf (ix (T r % 3))
                  have co := H4.out.otc r hrp
                  have fo := H4.out.otf r
                  have ck := H4.out.s3.view.ck r hrp
                  have s0 : w.heap.size < wr.heap.size := by omega
                  have s1 : wo.heap.size < wr.heap.size := by omega
                  have s2 : w2.heap.size < wr.heap.size := by omega
                  have hen1 := HEN.out _ hxm
                  by_cases hk2 : v.ck r = 2 ∨ v.ck r = 3
                  · cases hk2' : ((v.ck r : Int) == 2) with
                    | true =>
                      clear hk2
                      by_cases hee : en (ix (T r % 3)) = p
                      · have ee : ((en (ix (T r % 3)) : Int) == (p : Int)) = true := beq_iff_eq.2 (by omega)
                        clear hee
                        go_wp2_with fail
                        exact ⟨⟨r + 1, true, upd en (ix (T r % 3)) r, upd ot r (ix (T r % 3)), by omega, by go_num, rfl, (fun x hx => upd_cases (P := fun z => z ≤ p) (fun _ => by omega) (fun _ => HEN.out x hx)), fun x hx => upd_cases (P := fun z => z = ix (T x % 3)) (fun e => by rw [e]) (fun e => HOT.out x (by omega)), ((H4.out.setO hrp _).setE hxm r).alloc _⟩, by simp [intOf]; omega⟩
                      · have ee : ((en (ix (T r % 3)) : Int) == (p : Int)) = false := beq_eq_false_iff_ne.2 (by omega)
                        clear hee
                        go_wp2_with fail
                        exact ⟨⟨r + 1, true, en, upd ot r (ix (T r % 3)), by omega, by go_num, rfl, HEN.out, fun x hx => upd_cases (P := fun z => z = ix (T x % 3)) (fun e => by rw [e]) (fun e => HOT.out x (by omega)), (H4.out.setO hrp _).alloc _⟩, by simp [intOf]; omega⟩
                    | false =>
                      have k3 : ((v.ck r : Int) == 3) = true := by
                        have := beq_eq_false_iff_ne.1 hk2'
                        exact beq_iff_eq.2 (by omega)
                      clear hk2
                      by_cases hee : en (ix (T r % 3)) = p
                      · have ee : ((en (ix (T r % 3)) : Int) == (p : Int)) = true := beq_iff_eq.2 (by omega)
                        clear hee
                        go_wp2_with fail
                        exact ⟨⟨r + 1, true, upd en (ix (T r % 3)) r, upd ot r (ix (T r % 3)), by omega, by go_num, rfl, (fun x hx => upd_cases (P := fun z => z ≤ p) (fun _ => by omega) (fun _ => HEN.out x hx)), fun x hx => upd_cases (P := fun z => z = ix (T x % 3)) (fun e => by rw [e]) (fun e => HOT.out x (by omega)), ((H4.out.setO hrp _).setE hxm r).alloc _⟩, by simp [intOf]; omega⟩
                      · have ee : ((en (ix (T r % 3)) : Int) == (p : Int)) = false := beq_eq_false_iff_ne.2 (by omega)
                        clear hee
                        go_wp2_with fail
                        exact ⟨⟨r + 1, true, en, upd ot r (ix (T r % 3)), by omega, by go_num, rfl, HEN.out, fun x hx => upd_cases (P := fun z => z = ix (T x % 3)) (fun e => by rw [e]) (fun e => HOT.out x (by omega)), (H4.out.setO hrp _).alloc _⟩, by simp [intOf]; omega⟩
                  · have k2 : ((v.ck r : Int) == 2) = false := beq_eq_false_iff_ne.2 (by omega)
                    have k3 : ((v.ck r : Int) == 3) = false := beq_eq_false_iff_ne.2 (by omega)
                    clear hk2
                    go_wp2_with fail
                    exact ⟨⟨r + 1, ho, en, upd ot r (ix (T r % 3)), by omega, by go_num, rfl, HEN.out, fun x hx => upd_cases (P := fun z => z = ix (T x % 3)) (fun e => by rw [e]) (fun e => HOT.out x (by omega)), (H4.out.setO hrp _).alloc _⟩, by simp [intOf]; omega⟩
                · obtain rfl : r = p := by omega
                  go_wp2_with fail
                  go_ret
                  refine ⟨dfin r j items v en ot ho, ⟨wr.heap.size, w.heap.size, w2.heap.size, w3.heap.size, w.heap.size + 1 + 1 + 1⟩, rfl, fin_good HI.out hlen HEN.out HOT.out H2.out.ixl (by omega), rfl, fin_ix H4.out _ rfl rfl rfl rfl rfl rfl, H4.out.s3.bel.alloc (by omega) _, ?_⟩
                  rintro k (rfl | rfl | rfl | rfl | rfl) <;> simp <;> omega
set_option maxRecDepth 100000 in
set_option maxHeartbeats 1000000 in
theorem build_nil (w : World) (a : Option Addr) (len cap : Nat) (K X T : Nat → Nat) (hlen : len ≤ 300) (H0 : Hid (len = 0)) :
    Calls Yba.prog 8 #[.slice a len cap] w fun e w' => ∃ (d : Dat) (R : Blk), e = .returned (.pointer (some ⟨R.b, 0, none⟩)) ∧ d.Good ∧ d.n = len ∧ IxAt d R w' ∧ Below w.heap.size w w' ∧ ∀ k, R.has k → w.heap.size ≤ k ∧ k < w'.heap.size := by
  have hmk1 := fun w => make45 w len hlen
  have hmk2 := run_make_row' (P := Yba.prog) 46 21 (.int .i32 0) 4 Yba.underlying46 info21' rfl .i64 .i64 len (by omega) (by omega)
  obtain ⟨i0, hi0, hz0, hz1, hz2⟩ := info_parts info3
  go_enter Yba.func8, Yba.ntmps8
  go_wp2_with fail
  clear hmk1 hmk2
  go_loopw [34, 7] (fun i it wr => ∃ (p items : Nat) (v : V1), p ≤ len ∧ i = .int .i64 p ∧ it = .int .i64 items ∧ View w.heap.size len v wr ∧ Inv1 K T X p v items ∧ Below w.heap.size w wr ∧ w.heap.size + 4 ≤ wr.heap.size) (fun i _ _ => len - (intOf i).toNat)
  case atStart => exact ⟨0, 0, v0, Nat.zero_le _, rfl, rfl, view_start w len, inv_start K T X, ((((Below.refl _ w).alloc (Nat.le_refl _) _).alloc (by simp) _).alloc (by simp; omega) _).alloc (by simp; omega) _, by simp⟩
  case round =>
    obtain ⟨p, items, v, hp, rfl, rfl, hv, hi, hbel, hz⟩ := hrel
    by_cases hpn : p < len
    · exact absurd hpn (by have := H0.out; omega)
    · obtain rfl : p = len := by omega
      have HV : Hid _ := hv
      have HI : Hid _ := hi
      have HB : Hid _ := hbel
      have hit2 : items ≤ 2 := by rcases hi.ns with h | h | h | h | h <;> omega
      clear hv hi hbel
      obtain ⟨wo, hwo⟩ : ∃ wo : World, wo = wr := ⟨_, rfl⟩
      rw [← hwo] at HV HB hz ⊢
      clear hwo
      go_wp2_with fail
      go_loopw [16, 15] (fun i o wr => ∃ (t m : Nat) (tv : Value) (ix : Nat → Nat), t ≤ 3 ∧ i = .int .i64 t ∧ o = tv ∧ S2 w v p wo.heap.size t m tv ix wr) (fun i _ _ => 3 - (intOf i).toNat)
      case atStart =>
        refine ⟨0, 0, _, fun _ => 0, by omega, rfl, rfl, (HV.out.alloc (by omega) _).alloc (by simp; omega) _, (HB.out.alloc (by omega) _).alloc (by simp; omega) _, ⟨[], rfl, .inr ⟨wo.heap.size + 1, 0, #[], rfl, Nat.le_refl _, ?_, Nat.le_refl _, Nat.zero_le _, rfl, rfl⟩⟩, ?_, ?_, fun j hj => by omega, Nat.le_refl _, by omega, by simp⟩
        · have := World.alloc_heap_new (wo.alloc (.cells #[.int .i64 0, .int .i64 0, .int .i64 0] 65)) (.cells #[] 3)
          rwa [World.size_alloc] at this
        · intro j hj
          have e : ((wo.alloc (.cells #[.int .i64 0, .int .i64 0, .int .i64 0] 65)).alloc (.cells #[] 3)).heap[wo.heap.size]? = some (.cells #[.int .i64 0, .int .i64 0, .int .i64 0] 65 (0, 0)) := by
            rw [Below.heap_alloc _ _ _ (by simp)]; exact World.alloc_heap_new wo _
          rw [cell_of_row _ _ _ _ _ _ e]
          have : j = 0 ∨ j = 1 ∨ j = 2 := by omega
          rcases this with rfl | rfl | rfl <;> rfl
        · intro o
          have e : ((wo.alloc (.cells #[.int .i64 0, .int .i64 0, .int .i64 0] 65)).alloc (.cells #[] 3)).heap[wo.heap.size]? = some (.cells #[.int .i64 0, .int .i64 0, .int .i64 0] 65 (0, 0)) := by
            rw [Below.heap_alloc _ _ _ (by simp)]; exact World.alloc_heap_new wo _
          exact frozen_of_row _ _ _ _ _ e
      case round =>
        clear HV HB
        obtain ⟨t, m, tv, ix, ht, rfl, hov, h2⟩ := hrel
        subst hov
        obtain ⟨xs, hown⟩ := h2.own
        obtain ⟨ta, tcap, htv⟩ := own_form hown
        have hmt := h2.mt
        by_cases ht3 : t < 3
        · have cp := h2.view.pf t ht3
          have ci := h2.ixc t ht3
          have cf := h2.ixf t
          have sI : wo.heap.size < wr.heap.size := by have := h2.sz; omega
          cases hpf : v.pf t with
          | false =>
            rw [hpf] at cp
            have HPF : Hid _ := hpf
            clear hpf
            go_wp2_with fail
            exact ⟨⟨t + 1, m, _, ix, by omega, by go_num, rfl, h2.skip HPF.out⟩, by simp [intOf]; omega⟩
          | true =>
            rw [hpf] at cp
            have H2 : Hid _ := h2
            have HOW : Hid _ := hown
            have hsz2 := h2.sz
            clear hpf h2
            rw [htv] at HOW H2 ⊢
            clear htv hown
            go_wp2_with (at_builtin; refine wpList_append_own _ rfl _ _ 25 rfl (wo.heap.size + 1) 3 i0 (.int .i64 0) 1 8 Yba.underlying25 hi0 hz0 hz1 hz2 rfl (by decide) (.slice ta m tcap) m xs rfl ((ownsRow_setCell_below HOW.out (Nat.lt_succ_self _) _).alloc _) ⟨wr.heap.size, 0, none⟩ 1 1 [.int .i64 ((t : Int) + 1)] rfl rfl (one_new _ _ (size_set _ _ _).symm _ _) (by simp [Value.oneCell']) (by unfold maxLen; omega) (by omega) (by rw [World.size_alloc, size_set]; omega) ?_; intro v' w1 hown' hgrow _; have HO1 : Hid _ := hown'; have HG1 : Hid _ := hgrow; clear hown' hgrow)
            exact ⟨⟨t + 1, m + 1, _, upd ix t m, by omega, by go_num, rfl, H2.out.push ht3 _ HO1.out HG1.out⟩, by simp [intOf]; omega⟩
        · obtain rfl : t = 3 := by omega
          have H2 : Hid _ := h2
          have hsz2 := h2.sz
          clear h2 hown
          rw [htv] at H2 ⊢
          clear htv
          obtain ⟨w2, hw2⟩ : ∃ w2 : World, w2 = wr := ⟨_, rfl⟩
          rw [← hw2] at H2 hsz2 ⊢
          clear hw2
          have hmk3 := run_make_row' (P := Yba.prog) 25 3 (.int .i64 0) 8 Yba.underlying25 info3 rfl .i64 .i64 m (by omega) (by omega)
          go_wp2_with fail
          clear hmk3
          go_loopw [121] (fun i wr => ∃ (j : Nat) (en : Nat → Nat), j ≤ m ∧ i = .int .i64 j ∧ (∀ r, r < j → en r = p) ∧ S3 w v p wo.heap.size w2.heap.size m ix en wr) (fun i _ => m - (intOf i).toNat)
          case atStart =>
            have e : (w2.alloc (.cells (madeCells #[.int .i64 0] m) 3)).heap[w2.heap.size]? = some (.cells (madeCells #[.int .i64 0] m) 3 (0, 0)) := World.alloc_heap_new w2 _
            have hlo := H2.out.lo
            refine ⟨0, fun _ => 0, Nat.zero_le _, rfl, fun r hr => by omega, H2.out.view.alloc (by omega) _, H2.out.bel.alloc H2.out.bel.size _, fun j hj => (World.cell?_of_block (a := ⟨wo.heap.size, j, none⟩) (Below.heap_alloc w2 _ wo.heap.size (by omega))).trans (H2.out.ixc j hj), fun j hj => ?_, fun o => frozen_of_row _ _ _ _ _ e, H2.out.lo, by omega, by simp⟩
            rw [cell_of_row _ _ _ _ _ _ e]
            simp [madeCells, hj, Nat.mod_one]
          case round =>
            obtain ⟨j, en, hj, rfl, hen, h3⟩ := hrel
            by_cases hjm : j < m
            · have ce := h3.enc j hjm
              have cf := h3.enf j
              have H3 : Hid _ := h3
              have HEN : Hid _ := hen
              clear h3 hen
              go_wp2_with fail
              refine ⟨⟨j + 1, upd en j p, by omega, by go_num, fun r hr => ?_, H3.out.set hjm p⟩, by simp [intOf]; omega⟩
              exact upd_cases (P := fun z => z = p) (fun _ => rfl) (fun e => HEN.out r (by omega))
            · obtain rfl : j = m := by omega
              have H3 : Hid _ := h3
              have HEN : Hid _ := hen
              have hsz3 := h3.sz
              clear h3 hen
              obtain ⟨w3, hw3⟩ : ∃ w3 : World, w3 = wr := ⟨_, rfl⟩
              rw [← hw3] at H3 hsz3 ⊢
              clear hw3
              have hmk4 := run_make_row' (P := Yba.prog) 46 21 (.int .i32 0) 4 Yba.underlying46 info21' rfl .i64 .i64 p (by omega) (by omega)
              go_wp2_with fail
              clear hmk4
              go_loopw [133, 19] (fun i hd wr => ∃ (r : Nat) (ho : Bool) (en ot : Nat → Nat), r ≤ p ∧ i = .int .i64 r ∧ hd = .bool ho ∧ (∀ x, x < j → en x ≤ p) ∧ (∀ x, x < r → ot x = ix (T x % 3)) ∧ S4 w v p wo.heap.size w2.heap.size w3.heap.size j ix en ot wr) (fun i _ _ => p - (intOf i).toNat)
              case atStart =>
                have e : (w3.alloc (.cells (madeCells #[.int .i32 0] p) 21)).heap[w3.heap.size]? = some (.cells (madeCells #[.int .i32 0] p) 21 (0, 0)) := World.alloc_heap_new w3 _
                refine ⟨0, false, en, fun _ => 0, Nat.zero_le _, rfl, rfl, fun x hx => by rw [HEN.out x hx]; exact Nat.le_refl _, fun x hx => by omega, H3.out.alloc _, fun q hq => ?_, fun o => frozen_of_row _ _ _ _ _ e, hsz3, by simp⟩
                rw [cell_of_row _ _ _ _ _ _ e]
                simp [madeCells, hq, Nat.mod_one]
              case round =>
                clear H3 HEN
                obtain ⟨r, ho, en, ot, hr, rfl, rfl, hen, hot, h4⟩ := hrel
                have H4 : Hid _ := h4
                have HEN : Hid _ := hen
                have HOT : Hid _ := hot
                have hsz4 := h4.sz
                have heo := h4.eo
                have hio := h4.s3.io
                have hlo := h4.s3.lo
                clear h4 hen hot
                by_cases hrp : r < p
                · exact absurd hrp (by have := H0.out; omega)
                · obtain rfl : r = p := by omega
                  go_wp2_with fail
                  go_ret
                  refine ⟨dfin r j items v en ot ho, ⟨wr.heap.size, w.heap.size, w2.heap.size, w3.heap.size, w.heap.size + 1 + 1 + 1⟩, rfl, fin_good HI.out hlen HEN.out HOT.out H2.out.ixl (by omega), rfl, fin_ix H4.out _ rfl rfl rfl rfl rfl rfl, H4.out.s3.bel.alloc (by omega) _, ?_⟩
                  rintro k (rfl | rfl | rfl | rfl | rfl) <;> simp <;> omega
end Go.Proofs.Ybulkipk
