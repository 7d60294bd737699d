/-
  The builder's later loops: what they keep, step by step.
-/
import Derived.Test.YbulkipkInv1
import Derived.Laws.AppendOwn
import Derived.Laws.OwnMore
namespace Go.Proofs.Ybulkipk
open Go.RowKit
/-- the second loop: the places of the transactions -/
structure S2 (w : World) (v : V1) (len I t m : Nat) (tv : Value) (ix : Nat → Nat) (wr : World) : Prop where
  view : View w.heap.size len v wr
  bel : Below w.heap.size w wr
  own : ∃ xs, wr.ownsRow (I + 1) 3 1 tv m xs
  ixc : ∀ j, j < 3 → wr.cell? ⟨I, j, none⟩ = some (.int .i64 (ix j : Int))
  ixf : ∀ o, wr.frozen? ⟨I, o, none⟩ = false
  ixl : ∀ j, j < t → v.pf j = true → ix j < m
  mt : m ≤ t
  lo : w.heap.size + 4 ≤ I
  sz : I + 2 ≤ wr.heap.size
theorem own_form {wr : World} {base e size m : Nat} {tv : Value} {xs : List Value} (h : wr.ownsRow base e size tv m xs) : ∃ a cap, tv = .slice a m cap := by
  rcases h.2 with ⟨rfl, rfl⟩ | ⟨g, cap, cur, rfl, _⟩
  · exact ⟨none, 0, rfl⟩
  · exact ⟨_, _, rfl⟩
section
variable {w wr w1 : World} {v : V1} {len I t m : Nat} {tv tv' : Value} {ix : Nat → Nat}
theorem S2.skip (h : S2 w v len I t m tv ix wr) (hf : v.pf t = false) : S2 w v len I (t + 1) m tv ix wr :=
  ⟨h.view, h.bel, h.own, h.ixc, h.ixf, fun j hj hp => by
    by_cases e : j = t
    · subst e; rw [hf] at hp; cases hp
    · exact h.ixl j (by omega) hp, by have := h.mt; omega, h.lo, h.sz⟩
theorem S2.push (h : S2 w v len I t m tv ix wr) (ht : t < 3) (o : Obj) {xs : List Value}
    (hown : w1.ownsRow (I + 1) 3 1 tv' (m + 1) xs) (hg : ((wr.setCell ⟨I, t, none⟩ (.int .i64 (m : Int))).alloc o).grownBy w1 tv.ownBlock) :
    S2 w v len I (t + 1) (m + 1) tv' (upd ix t m) w1 := by
  obtain ⟨ys, hy⟩ := h.own
  have hlow : ∀ k, tv.ownBlock = some k → I + 1 ≤ k := fun k e => (hy.lt k e).1
  have hlo := h.lo
  have hsz := h.sz
  have hw1 : ∀ k, k ≤ I → w1.heap[k]? = (wr.setCell ⟨I, t, none⟩ (.int .i64 (m : Int))).heap[k]? := fun k hk => by
    rw [hg.block k (by rw [World.size_alloc, size_set]; omega) (fun e => by have := hlow k e.symm; omega), Below.heap_alloc _ _ _ (by rw [size_set]; omega)]
  have hw2 : ∀ k, k < I → w1.heap[k]? = wr.heap[k]? := fun k hk => (hw1 k (by omega)).trans (Below.heap_setCell _ _ _ _ (by show k ≠ I; omega))
  have hc : ∀ o', w1.cell? ⟨I, o', none⟩ = (wr.setCell ⟨I, t, none⟩ (.int .i64 (m : Int))).cell? ⟨I, o', none⟩ := fun o' => World.cell?_of_block (a := ⟨I, o', none⟩) (hw1 I (Nat.le_refl _))
  have hbel : Below w.heap.size w w1 := (((h.bel.setCell (p := ⟨I, t, none⟩) (by show w.heap.size ≤ I; omega) _).alloc (by rw [size_set]; omega) o).grown hg (by rw [World.size_alloc, size_set]; omega) (fun k e => by have := hlow k e; omega))
  refine ⟨h.view.of_same (fun k _ hk => hw2 k (by omega)), hbel, ⟨xs, hown⟩, fun j hj => ?_, fun o' => ?_, fun j hj hp => ?_, by have := h.mt; omega, h.lo, ?_⟩
  · rw [hc]
    by_cases e : j = t
    · subst e; rw [upd_same]; exact set_same _ _ (h.ixc j hj)
    · rw [upd_other _ _ e]; exact (set_other _ (by omega)).trans (h.ixc j hj)
  · exact (World.frozen?_of_block (a := ⟨I, o', none⟩) (hw1 I (Nat.le_refl _))).trans ((World.frozen?_setCell _ _ _ _).trans (h.ixf o'))
  · by_cases e : j = t
    · subst e; rw [upd_same]; omega
    · rw [upd_other _ _ e]; have := h.ixl j (by omega) hp; omega
  · have := hg.size; rw [World.size_alloc, size_set] at this; omega
end
/-- the third loop: every end at len -/
structure S3 (w : World) (v : V1) (len I E m : Nat) (ix en : Nat → Nat) (wr : World) : Prop where
  view : View w.heap.size len v wr
  bel : Below w.heap.size w wr
  ixc : ∀ j, j < 3 → wr.cell? ⟨I, j, none⟩ = some (.int .i64 (ix j : Int))
  enc : ∀ j, j < m → wr.cell? ⟨E, j, none⟩ = some (.int .i64 (en j : Int))
  enf : ∀ o, wr.frozen? ⟨E, o, none⟩ = false
  lo : w.heap.size + 4 ≤ I
  io : I < E
  sz : E < wr.heap.size
section
variable {w wr w1 : World} {v : V1} {len I E m : Nat} {ix en : Nat → Nat}
theorem S3.of_same (h : S3 w v len I E m ix en wr) {wr' : World} (hs : ∀ k, k ≤ E → w.heap.size ≤ k → wr'.heap[k]? = wr.heap[k]?) (hb : Below w.heap.size w wr') (hz : wr.heap.size ≤ wr'.heap.size) : S3 w v len I E m ix en wr' := by
  have h1 := h.lo
  have h2 := h.io
  have h3 := h.sz
  exact ⟨h.view.of_same (fun k ha hk => hs k (by omega) ha), hb, fun j hj => (World.cell?_of_block (a := ⟨I, j, none⟩) (hs I (by omega) (by omega))).trans (h.ixc j hj),
    fun j hj => (World.cell?_of_block (a := ⟨E, j, none⟩) (hs E (by omega) (by omega))).trans (h.enc j hj), fun o => (World.frozen?_of_block (a := ⟨E, o, none⟩) (hs E (by omega) (by omega))).trans (h.enf o), h.lo, h.io, by omega⟩
theorem S3.alloc (h : S3 w v len I E m ix en wr) (o : Obj) : S3 w v len I E m ix en (wr.alloc o) :=
  h.of_same (fun k hk _ => Below.heap_alloc _ _ _ (by have := h.sz; omega)) (h.bel.alloc (by have := h.sz; have := h.io; have := h.lo; omega) o) (by simp)
theorem S3.set (h : S3 w v len I E m ix en wr) {i : Nat} (hi : i < m) (x : Nat) : S3 w v len I E m ix (upd en i x) (wr.setCell ⟨E, i, none⟩ (.int .i64 (x : Int))) := by
  have h1 := h.lo
  have h2 := h.io
  have h3 := h.sz
  refine ⟨h.view.of_same (fun k ha hk => Below.heap_setCell _ _ _ _ (by show k ≠ E; omega)), h.bel.setCell (p := ⟨E, i, none⟩) (by show w.heap.size ≤ E; omega) _, fun j hj => (set_other _ (by omega)).trans (h.ixc j hj), fun j hj => ?_,
    fun o => (World.frozen?_setCell _ _ _ _).trans (h.enf o), h.lo, h.io, by rw [size_set]; exact h.sz⟩
  by_cases e : j = i
  · subst e; rw [upd_same]; exact set_same _ _ (h.enc j hj)
  · rw [upd_other _ _ e]; exact (set_other _ (by omega)).trans (h.enc j hj)
end
/-- the fourth loop -/
structure S4 (w : World) (v : V1) (len I E O m : Nat) (ix en ot : Nat → Nat) (wr : World) : Prop where
  s3 : S3 w v len I E m ix en wr
  otc : ∀ q, q < len → wr.cell? ⟨O, q, none⟩ = some (.int .i32 (ot q : Int))
  otf : ∀ o, wr.frozen? ⟨O, o, none⟩ = false
  eo : E < O
  sz : O < wr.heap.size
section
variable {w wr w1 : World} {v : V1} {len I E O m : Nat} {ix en ot : Nat → Nat}
theorem S4.alloc (h : S4 w v len I E O m ix en ot wr) (o : Obj) : S4 w v len I E O m ix en ot (wr.alloc o) :=
  ⟨h.s3.alloc o, fun q hq => (World.cell?_of_block (a := ⟨O, q, none⟩) (Below.heap_alloc _ _ _ h.sz)).trans (h.otc q hq), fun o' => (World.frozen?_of_block (a := ⟨O, o', none⟩) (Below.heap_alloc _ _ _ h.sz)).trans (h.otf o'), h.eo, by have := h.sz; simp; omega⟩
theorem S4.setE (h : S4 w v len I E O m ix en ot wr) {i : Nat} (hi : i < m) (x : Nat) : S4 w v len I E O m ix (upd en i x) ot (wr.setCell ⟨E, i, none⟩ (.int .i64 (x : Int))) :=
  ⟨h.s3.set hi x, fun q hq => (set_other _ (by have := h.eo; omega)).trans (h.otc q hq), fun o => (World.frozen?_setCell _ _ _ _).trans (h.otf o), h.eo, by rw [size_set]; exact h.sz⟩
theorem S4.setO (h : S4 w v len I E O m ix en ot wr) {i : Nat} (_hi : i < len) (x : Nat) : S4 w v len I E O m ix en (upd ot i x) (wr.setCell ⟨O, i, none⟩ (.int .i32 (x : Int))) := by
  have h1 := h.s3.lo
  have h2 := h.s3.io
  have h3 := h.eo
  refine ⟨h.s3.of_same (fun k hk _ => Below.heap_setCell _ _ _ _ (by show k ≠ O; omega)) (h.s3.bel.setCell (p := ⟨O, i, none⟩) (by show w.heap.size ≤ O; omega) _) (by rw [size_set]; exact Nat.le_refl _), fun q hq => ?_, fun o => (World.frozen?_setCell _ _ _ _).trans (h.otf o), h.eo, by rw [size_set]; exact h.sz⟩
  by_cases e : q = i
  · subst e; rw [upd_same]; exact set_same _ _ (h.otc q hq)
  · rw [upd_other _ _ e]; exact (set_other _ (by omega)).trans (h.otc q hq)
end
end Go.Proofs.Ybulkipk
