/-
  What the builder's first loop keeps in its four blocks (the schedule's cells, 'present', 'itemNum', 'opItem'), store by store.
-/
import Derived.Test.YbulkipkIx
import Derived.Laws.MakeOwn
import Derived.Deep.WholeRow
namespace Go.Proofs.Ybulkipk
open Go.RowKit
def upd {α : Type} (f : Nat → α) (i : Nat) (x : α) : Nat → α := fun q => if q = i then x else f q
theorem upd_same {α : Type} (f : Nat → α) (i : Nat) (x : α) : upd f i x i = x := if_pos rfl
theorem upd_other {α : Type} (f : Nat → α) {i q : Nat} (x : α) (h : q ≠ i) : upd f i x q = f q := if_neg h
structure V1 where
  ck : Nat → Nat
  ct : Nat → Nat
  it : Nat → ByteArray
  pf : Nat → Bool
  a : Nat → Int
  oc : Nat → Int
structure View (B n : Nat) (v : V1) (W : World) : Prop where
  ck : ∀ q, q < n → W.cell? ⟨B, q * 3, none⟩ = some (.int .u8 (v.ck q : Int))
  ct : ∀ q, q < n → W.cell? ⟨B, q * 3 + 1, none⟩ = some (.int .i64 (v.ct q : Int))
  it : ∀ q, q < n → W.cell? ⟨B, q * 3 + 2, none⟩ = some (.string (v.it q))
  pf : ∀ t, t < 3 → W.cell? ⟨B + 1, t, none⟩ = some (.bool (v.pf t))
  a : ∀ x, x < 2 → W.cell? ⟨B + 1 + 1, x, none⟩ = some (.int .i32 (v.a x))
  oc : ∀ q, q < n → W.cell? ⟨B + 1 + 1 + 1, q, none⟩ = some (.int .i32 (v.oc q))
  f0 : ∀ o, W.frozen? ⟨B, o, none⟩ = false
  f1 : ∀ o, W.frozen? ⟨B + 1, o, none⟩ = false
  f2 : ∀ o, W.frozen? ⟨B + 1 + 1, o, none⟩ = false
  f3 : ∀ o, W.frozen? ⟨B + 1 + 1 + 1, o, none⟩ = false
theorem set_other {W : World} {b o b' o' : Nat} (v : Value) (h : b' ≠ b ∨ o' ≠ o) : (W.setCell ⟨b, o, none⟩ v).cell? ⟨b', o', none⟩ = W.cell? ⟨b', o', none⟩ :=
  World.cell?_setCell_other _ _ _ _ (by simp; omega)
theorem set_same {W : World} {b o : Nat} (v u : Value) (h : W.cell? ⟨b, o, none⟩ = some u) : (W.setCell ⟨b, o, none⟩ v).cell? ⟨b, o, none⟩ = some v := World.cell?_setCell_same _ _ _ h
section
variable {B n : Nat} {v : V1} {W : World}
theorem View.of_same (h : View B n v W) {W' : World} (hs : ∀ k, B ≤ k → k < B + 4 → W'.heap[k]? = W.heap[k]?) : View B n v W' := by
  have c : ∀ k o, B ≤ k → k < B + 4 → W'.cell? ⟨k, o, none⟩ = W.cell? ⟨k, o, none⟩ := fun k o h1 h2 => World.cell?_of_block (w := W) (hs k h1 h2)
  have f : ∀ k o, B ≤ k → k < B + 4 → W'.frozen? ⟨k, o, none⟩ = W.frozen? ⟨k, o, none⟩ := fun k o h1 h2 => World.frozen?_of_block (w := W) (hs k h1 h2)
  exact ⟨fun q hq => (c _ _ (by omega) (by omega)).trans (h.ck q hq), fun q hq => (c _ _ (by omega) (by omega)).trans (h.ct q hq), fun q hq => (c _ _ (by omega) (by omega)).trans (h.it q hq),
    fun t ht => (c _ _ (by omega) (by omega)).trans (h.pf t ht), fun x hx => (c _ _ (by omega) (by omega)).trans (h.a x hx), fun q hq => (c _ _ (by omega) (by omega)).trans (h.oc q hq),
    fun o => (f _ _ (by omega) (by omega)).trans (h.f0 o), fun o => (f _ _ (by omega) (by omega)).trans (h.f1 o), fun o => (f _ _ (by omega) (by omega)).trans (h.f2 o), fun o => (f _ _ (by omega) (by omega)).trans (h.f3 o)⟩
theorem View.alloc (h : View B n v W) (hz : B + 4 ≤ W.heap.size) (o : Obj) : View B n v (W.alloc o) := h.of_same (fun k _ _ => Below.heap_alloc _ _ _ (by omega))
theorem View.setCk (h : View B n v W) {q : Nat} (hq : q < n) (x : Nat) : View B n { v with ck := upd v.ck q x } (W.setCell ⟨B, q * 3, none⟩ (.int .u8 (x : Int))) := by
  refine ⟨fun r hr => ?_, fun r hr => (set_other _ (by omega)).trans (h.ct r hr), fun r hr => (set_other _ (by omega)).trans (h.it r hr), fun t ht => (set_other _ (by omega)).trans (h.pf t ht), fun t ht => (set_other _ (by omega)).trans (h.a t ht), fun r hr => (set_other _ (by omega)).trans (h.oc r hr),
    fun o => (World.frozen?_setCell _ _ _ _).trans (h.f0 o), fun o => (World.frozen?_setCell _ _ _ _).trans (h.f1 o), fun o => (World.frozen?_setCell _ _ _ _).trans (h.f2 o), fun o => (World.frozen?_setCell _ _ _ _).trans (h.f3 o)⟩
  by_cases e : r = q
  · subst e; show _ = some (Value.int .u8 ((upd v.ck r x r : Nat) : Int)); rw [upd_same]; exact set_same _ _ (h.ck r hr)
  · show _ = some (Value.int .u8 ((upd v.ck q x r : Nat) : Int)); rw [upd_other _ _ e]; exact (set_other _ (by omega)).trans (h.ck r hr)
theorem View.setCt (h : View B n v W) {q : Nat} (hq : q < n) (x : Nat) : View B n { v with ct := upd v.ct q x } (W.setCell ⟨B, q * 3 + 1, none⟩ (.int .i64 (x : Int))) := by
  refine ⟨fun r hr => (set_other _ (by omega)).trans (h.ck r hr), fun r hr => ?_, fun r hr => (set_other _ (by omega)).trans (h.it r hr), fun t ht => (set_other _ (by omega)).trans (h.pf t ht), fun t ht => (set_other _ (by omega)).trans (h.a t ht), fun r hr => (set_other _ (by omega)).trans (h.oc r hr),
    fun o => (World.frozen?_setCell _ _ _ _).trans (h.f0 o), fun o => (World.frozen?_setCell _ _ _ _).trans (h.f1 o), fun o => (World.frozen?_setCell _ _ _ _).trans (h.f2 o), fun o => (World.frozen?_setCell _ _ _ _).trans (h.f3 o)⟩
  by_cases e : r = q
  · subst e; show _ = some (Value.int .i64 ((upd v.ct r x r : Nat) : Int)); rw [upd_same]; exact set_same _ _ (h.ct r hr)
  · show _ = some (Value.int .i64 ((upd v.ct q x r : Nat) : Int)); rw [upd_other _ _ e]; exact (set_other _ (by omega)).trans (h.ct r hr)
theorem View.setIt (h : View B n v W) {q : Nat} (hq : q < n) (x : ByteArray) : View B n { v with it := upd v.it q x } (W.setCell ⟨B, q * 3 + 2, none⟩ (.string x)) := by
  refine ⟨fun r hr => (set_other _ (by omega)).trans (h.ck r hr), fun r hr => (set_other _ (by omega)).trans (h.ct r hr), fun r hr => ?_, fun t ht => (set_other _ (by omega)).trans (h.pf t ht), fun t ht => (set_other _ (by omega)).trans (h.a t ht), fun r hr => (set_other _ (by omega)).trans (h.oc r hr),
    fun o => (World.frozen?_setCell _ _ _ _).trans (h.f0 o), fun o => (World.frozen?_setCell _ _ _ _).trans (h.f1 o), fun o => (World.frozen?_setCell _ _ _ _).trans (h.f2 o), fun o => (World.frozen?_setCell _ _ _ _).trans (h.f3 o)⟩
  by_cases e : r = q
  · subst e; show _ = some (Value.string (upd v.it r x r)); rw [upd_same]; exact set_same _ _ (h.it r hr)
  · show _ = some (Value.string (upd v.it q x r)); rw [upd_other _ _ e]; exact (set_other _ (by omega)).trans (h.it r hr)
theorem View.setPf (h : View B n v W) {q : Nat} (hq : q < 3) (x : Bool) : View B n { v with pf := upd v.pf q x } (W.setCell ⟨B + 1, q, none⟩ (.bool x)) := by
  refine ⟨fun r hr => (set_other _ (by omega)).trans (h.ck r hr), fun r hr => (set_other _ (by omega)).trans (h.ct r hr), fun r hr => (set_other _ (by omega)).trans (h.it r hr), fun r hr => ?_, fun t ht => (set_other _ (by omega)).trans (h.a t ht), fun r hr => (set_other _ (by omega)).trans (h.oc r hr),
    fun o => (World.frozen?_setCell _ _ _ _).trans (h.f0 o), fun o => (World.frozen?_setCell _ _ _ _).trans (h.f1 o), fun o => (World.frozen?_setCell _ _ _ _).trans (h.f2 o), fun o => (World.frozen?_setCell _ _ _ _).trans (h.f3 o)⟩
  by_cases e : r = q
  · subst e; show _ = some (Value.bool (upd v.pf r x r)); rw [upd_same]; exact set_same _ _ (h.pf r hr)
  · show _ = some (Value.bool (upd v.pf q x r)); rw [upd_other _ _ e]; exact (set_other _ (by omega)).trans (h.pf r hr)
theorem View.setA (h : View B n v W) {q : Nat} (hq : q < 2) (x : Int) : View B n { v with a := upd v.a q x } (W.setCell ⟨B + 1 + 1, q, none⟩ (.int .i32 x)) := by
  refine ⟨fun r hr => (set_other _ (by omega)).trans (h.ck r hr), fun r hr => (set_other _ (by omega)).trans (h.ct r hr), fun r hr => (set_other _ (by omega)).trans (h.it r hr), fun t ht => (set_other _ (by omega)).trans (h.pf t ht), fun r hr => ?_, fun r hr => (set_other _ (by omega)).trans (h.oc r hr),
    fun o => (World.frozen?_setCell _ _ _ _).trans (h.f0 o), fun o => (World.frozen?_setCell _ _ _ _).trans (h.f1 o), fun o => (World.frozen?_setCell _ _ _ _).trans (h.f2 o), fun o => (World.frozen?_setCell _ _ _ _).trans (h.f3 o)⟩
  by_cases e : r = q
  · subst e; show _ = some (Value.int .i32 (upd v.a r x r)); rw [upd_same]; exact set_same _ _ (h.a r hr)
  · show _ = some (Value.int .i32 (upd v.a q x r)); rw [upd_other _ _ e]; exact (set_other _ (by omega)).trans (h.a r hr)
theorem View.setOc (h : View B n v W) {q : Nat} (hq : q < n) (x : Int) : View B n { v with oc := upd v.oc q x } (W.setCell ⟨B + 1 + 1 + 1, q, none⟩ (.int .i32 x)) := by
  refine ⟨fun r hr => (set_other _ (by omega)).trans (h.ck r hr), fun r hr => (set_other _ (by omega)).trans (h.ct r hr), fun r hr => (set_other _ (by omega)).trans (h.it r hr), fun t ht => (set_other _ (by omega)).trans (h.pf t ht), fun t ht => (set_other _ (by omega)).trans (h.a t ht), fun r hr => ?_,
    fun o => (World.frozen?_setCell _ _ _ _).trans (h.f0 o), fun o => (World.frozen?_setCell _ _ _ _).trans (h.f1 o), fun o => (World.frozen?_setCell _ _ _ _).trans (h.f2 o), fun o => (World.frozen?_setCell _ _ _ _).trans (h.f3 o)⟩
  by_cases e : r = q
  · subst e; show _ = some (Value.int .i32 (upd v.oc r x r)); rw [upd_same]; exact set_same _ _ (h.oc r hr)
  · show _ = some (Value.int .i32 (upd v.oc q x r)); rw [upd_other _ _ e]; exact (set_other _ (by omega)).trans (h.oc r hr)
end
end Go.Proofs.Ybulkipk
