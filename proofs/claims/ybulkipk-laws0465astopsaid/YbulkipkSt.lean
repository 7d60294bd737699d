/-
  What readsFromOthers keeps in its own two blocks, and how each step turns it.
-/
import Derived.Test.YbulkipkIx
import Derived.Test.YbulkipkIter
import Derived.Deep.OwnRows
namespace Go.Proofs.Ybulkipk
open Go.RowKit
/-- what the iterator's loop keeps ahead of operation p -/
structure St (d : Dat) (R : Blk) (bx A p : Nat) (wr : World) (lastc belc : Array Value) (bel : Nat → Int) : Prop where
  l0 : wr.heap[A + 1]? = some (.cells lastc 21 (0, 0))
  l1 : lastc.size = d.items
  l2 : ∀ x, x < d.items → lastc[x]? = some (.int .i32 (hd (d.stk p x)))
  b0 : wr.heap[A + 1 + 1]? = some (.cells belc 21 (0, 0))
  b1 : belc.size = d.n
  b2 : ∀ q, q < d.n → belc[q]? = some (.int .i32 (bel q))
  ch : ∀ x, x < d.items → Chain bel (d.stk p x)
  ix : IxAt d R wr
  bx : wr.cell? ⟨bx, 0, none⟩ = some (.pointer (some ⟨R.b, 0, none⟩))
  sz : A + 3 ≤ wr.heap.size
section
variable {d : Dat} {R : Blk} {bx A p : Nat} {wr wr' : World} {lastc belc : Array Value} {bel : Nat → Int}
theorem St.of_same (h : St d R bx A p wr lastc belc bel) (hs : ∀ k, k < A + 3 → (R.has k ∨ k = bx ∨ k = A + 1 ∨ k = A + 1 + 1) → wr'.heap[k]? = wr.heap[k]?)
    (hR : ∀ k, R.has k ∨ k = bx → k < A) (hz : wr.heap.size ≤ wr'.heap.size) : St d R bx A p wr' lastc belc bel :=
  ⟨(hs _ (by omega) (.inr (.inr (.inl rfl)))).trans h.l0, h.l1, h.l2, (hs _ (by omega) (.inr (.inr (.inr rfl)))).trans h.b0, h.b1, h.b2, h.ch,
    h.ix.of_same (fun k hk => hs k (by have := hR k (.inl hk); omega) (.inl hk)),
    (World.cell?_of_block (w := wr) (a := ⟨bx, 0, none⟩) (hs bx (by have := hR bx (.inr rfl); omega) (.inr (.inl rfl)))).trans h.bx, Nat.le_trans h.sz hz⟩
theorem St.alloc (h : St d R bx A p wr lastc belc bel) (hR : ∀ k, R.has k ∨ k = bx → k < A) (o : Obj) : St d R bx A p (wr.alloc o) lastc belc bel :=
  h.of_same (fun k hk _ => Below.heap_alloc _ _ _ (by have := h.sz; omega)) hR (by simp)
theorem St.drewN (h : St d R bx A p wr lastc belc bel) (n : Nat) : St d R bx A p (wr.drewN n) lastc belc bel :=
  ⟨h.l0, h.l1, h.l2, h.b0, h.b1, h.b2, h.ch, h.ix.of_same (fun _ _ => rfl), h.bx, h.sz⟩
theorem St.keeps {T : Nat → Prop} (h : St d R bx A p wr lastc belc bel) (hk : Keeps T (A + 3) wr wr') (hT : ∀ k, T k → k < A) (hR : ∀ k, R.has k ∨ k = bx → ¬ T k ∧ k < A) : St d R bx A p wr' lastc belc bel :=
  h.of_same (fun k hk1 hk2 => hk.block k hk1 (by
    rcases hk2 with a | a | a | a
    · exact (hR k (.inl a)).1
    · exact (hR k (.inr a)).1
    · intro t; have := hT k t; omega
    · intro t; have := hT k t; omega)) (fun k hk => (hR k hk).2) hk.size
theorem St.next (h : St d R bx A p wr lastc belc bel) (hs : ∀ x, x < d.items → d.stk (p + 1) x = d.stk p x) : St d R bx A (p + 1) wr lastc belc bel :=
  ⟨h.l0, h.l1, fun x hx => by rw [hs x hx]; exact h.l2 x hx, h.b0, h.b1, h.b2, fun x hx => by rw [hs x hx]; exact h.ch x hx, h.ix, h.bx, h.sz⟩
theorem St.pop (h : St d R bx A p wr lastc belc bel) (hR : ∀ k, R.has k ∨ k = bx → k < A) {xi : Nat} (ho : d.oI p = (xi : Int)) (hk : ¬ d.kind p = 1) (hx : xi < d.items) :
    St d R bx A (p + 1) (wr.setCell ⟨A + 1, xi, none⟩ (.int .i32 (hd ((d.stk p xi).dropWhile (d.ab p))))) (lastc.setIfInBounds xi (.int .i32 (hd ((d.stk p xi).dropWhile (d.ab p))))) belc bel := by
  have hsz : ∀ x, d.stk (p + 1) x = if x = xi then (d.stk p x).dropWhile (d.ab p) else d.stk p x := fun x => by
    by_cases e : x = xi
    · subst e; simp [Dat.stk, ho, hk]
    · simp only [Dat.stk, ho]
      rw [if_neg (by omega), if_neg e]
  refine ⟨heap_setCell_same _ _ _ _ _ _ h.l0, by simp [h.l1], fun x hxx => ?_, (Below.heap_setCell _ _ _ _ (by show A + 1 + 1 ≠ A + 1; omega)).trans h.b0, h.b1, h.b2, fun x hxx => ?_, ?_, ?_, ?_⟩
  · rw [hsz x]
    by_cases e : x = xi
    · subst e; rw [if_pos rfl, Array.getElem?_setIfInBounds_self_of_lt (by rw [h.l1]; exact hx)]
    · rw [if_neg e, Array.getElem?_setIfInBounds_ne (by omega)]; exact h.l2 x hxx
  · rw [hsz x]
    by_cases e : x = xi
    · rw [if_pos e]; exact (h.ch x hxx).drop _
    · rw [if_neg e]; exact h.ch x hxx
  · exact h.ix.of_same (fun k hk => Below.heap_setCell _ _ _ _ (by have := hR k (.inl hk); show k ≠ A + 1; omega))
  · exact (World.cell?_of_block (w := wr) (a := ⟨bx, 0, none⟩) (Below.heap_setCell _ _ _ _ (by have := hR bx (.inr rfl); show bx ≠ A + 1; omega))).trans h.bx
  · have := h.sz; simpa [World.setCell] using this
theorem St.write (h : St d R bx A p wr lastc belc bel) (hR : ∀ k, R.has k ∨ k = bx → k < A) {xi : Nat} (ho : d.oI p = (xi : Int)) (hk : d.kind p = 1) (hx : xi < d.items) (hp : p < d.n) :
    St d R bx A (p + 1) ((wr.setCell ⟨A + 1 + 1, p, none⟩ (.int .i32 (hd (d.stk p xi)))).setCell ⟨A + 1, xi, none⟩ (.int .i32 (p : Int)))
      (lastc.setIfInBounds xi (.int .i32 (p : Int))) (belc.setIfInBounds p (.int .i32 (hd (d.stk p xi)))) (fun q => if q = p then hd (d.stk p xi) else bel q) := by
  have hsz : ∀ x, d.stk (p + 1) x = if x = xi then p :: d.stk p x else d.stk p x := fun x => by
    by_cases e : x = xi
    · subst e; simp [Dat.stk, ho, hk]
    · simp only [Dat.stk, ho]
      rw [if_neg (by omega), if_neg e]
  have hch : ∀ x, x < d.items → Chain (fun q => if q = p then hd (d.stk p xi) else bel q) (d.stk p x) := fun x hx' =>
    (h.ch x hx').congr (fun q hq => by
      have := ((Dat.stk_inv d p x).mem q hq).1
      show (if q = p then hd (d.stk p xi) else bel q) = bel q
      rw [if_neg (by omega)])
  have hl0 : (wr.setCell ⟨A + 1 + 1, p, none⟩ (.int .i32 (hd (d.stk p xi)))).heap[A + 1]? = some (.cells lastc 21 (0, 0)) := (Below.heap_setCell _ _ _ _ (by show A + 1 ≠ A + 1 + 1; omega)).trans h.l0
  refine ⟨heap_setCell_same _ _ _ _ _ _ hl0, by simp [h.l1], fun x hxx => ?_, (Below.heap_setCell _ _ _ _ (by show A + 1 + 1 ≠ A + 1; omega)).trans (heap_setCell_same _ _ _ _ _ _ h.b0), by simp [h.b1], fun q hq => ?_, fun x hxx => ?_, ?_, ?_, ?_⟩
  · rw [hsz x]
    by_cases e : x = xi
    · subst e; rw [if_pos rfl, Array.getElem?_setIfInBounds_self_of_lt (by rw [h.l1]; exact hx)]; rfl
    · rw [if_neg e, Array.getElem?_setIfInBounds_ne (by omega)]; exact h.l2 x hxx
  · by_cases e : q = p
    · subst e; rw [if_pos rfl, Array.getElem?_setIfInBounds_self_of_lt (by rw [h.b1]; exact hp)]
    · rw [if_neg e, Array.getElem?_setIfInBounds_ne (by omega)]; exact h.b2 q hq
  · rw [hsz x]
    by_cases e : x = xi
    · subst e
      rw [if_pos rfl]
      exact ⟨if_pos rfl, hch x hxx⟩
    · rw [if_neg e]; exact hch x hxx
  · exact h.ix.of_same (fun k hk => (Below.heap_setCell _ _ _ _ (by have := hR k (.inl hk); show k ≠ A + 1; omega)).trans (Below.heap_setCell _ _ _ _ (by have := hR k (.inl hk); show k ≠ A + 1 + 1; omega)))
  · exact (World.cell?_of_block (w := wr) (a := ⟨bx, 0, none⟩) ((Below.heap_setCell _ _ _ _ (by have := hR bx (.inr rfl); show bx ≠ A + 1; omega)).trans (Below.heap_setCell _ _ _ _ (by have := hR bx (.inr rfl); show bx ≠ A + 1 + 1; omega)))).trans h.bx
  · have := h.sz; simpa [World.setCell] using this
/-- at the loop's start -/
theorem st_start {W : World} {k : Nat} {cs : Array Value} (h : IxAt d R W) (hbx : W.cell? ⟨bx, 0, none⟩ = some (.pointer (some ⟨R.b, 0, none⟩))) (hR : ∀ k, R.has k ∨ k = bx → k < W.heap.size)
    (hc : cs.size = d.items) (hc2 : ∀ j, j < d.items → cs[j]? = some (.int .i32 (-1))) (o : Obj) :
    St d R bx W.heap.size 0 ((((W.alloc o).alloc (.cells cs 21)).drewN k).alloc (.cells (madeCells #[.int .i32 0] d.n) 21)) cs (madeCells #[.int .i32 0] d.n) (fun _ => 0) := by
  have e1 : ((((W.alloc o).alloc (.cells cs 21)).drewN k).alloc (.cells (madeCells #[.int .i32 0] d.n) 21)).heap[W.heap.size + 1]? = some (.cells cs 21 (0, 0)) := by
    rw [Below.heap_alloc _ _ _ (by simp)]
    have := World.alloc_heap_new (W.alloc o) (.cells cs 21)
    rwa [World.size_alloc] at this
  have e2 : ((((W.alloc o).alloc (.cells cs 21)).drewN k).alloc (.cells (madeCells #[.int .i32 0] d.n) 21)).heap[W.heap.size + 1 + 1]? = some (.cells (madeCells #[.int .i32 0] d.n) 21 (0, 0)) := by
    have := World.alloc_heap_new (((W.alloc o).alloc (.cells cs 21)).drewN k) (.cells (madeCells #[.int .i32 0] d.n) 21)
    simpa using this
  have e3 : ∀ j, j < W.heap.size → ((((W.alloc o).alloc (.cells cs 21)).drewN k).alloc (.cells (madeCells #[.int .i32 0] d.n) 21)).heap[j]? = W.heap[j]? := fun j hj => by
    rw [Below.heap_alloc _ _ _ (by simp; omega), World.heap_drewN, Below.heap_alloc _ _ _ (by simp; omega), Below.heap_alloc _ _ _ hj]
  refine ⟨e1, hc, fun x hx => hc2 x hx, e2, size_madeCells _ _, fun q hq => by simp [madeCells, hq, Nat.mod_one], fun x hx => trivial, h.of_same (fun j hj => e3 j (hR j (.inl hj))),
    (World.cell?_of_block (w := W) (a := ⟨bx, 0, none⟩) (e3 bx (hR bx (.inr rfl)))).trans hbx, by simp⟩
theorem stk_none (hn : d.oI p = -1) (x : Nat) : d.stk (p + 1) x = d.stk p x := by
  simp only [Dat.stk, hn]
  rw [if_neg (by omega)]
theorem stk_read_same {xi : Nat} (ho : d.oI p = (xi : Int)) (hk : ¬ d.kind p = 1) (hd' : (d.stk p xi).dropWhile (d.ab p) = d.stk p xi) (x : Nat) : d.stk (p + 1) x = d.stk p x := by
  simp only [Dat.stk, ho]
  by_cases e : (xi : Int) = (x : Int)
  · obtain rfl : xi = x := by omega
    rw [if_pos rfl, if_neg hk, hd']
  · rw [if_neg e]
end
theorem rfo_nil {d : Dat} {p : Nat} (h : d.pairAt p = []) : d.rfo (p + 1) = d.rfo p := by simp [Dat.rfo, h]
theorem rfo_one {d : Dat} {p w : Nat} (h : d.pairAt p = [(w, p)]) : d.rfo (p + 1) = d.rfo p ++ [(w, p)] := by simp [Dat.rfo, h]
theorem rfo_prefix {d : Dat} : ∀ {n p : Nat}, p ≤ n → d.rfo p <+: d.rfo n
  | 0, p, h => by obtain rfl : p = 0 := by omega
                  exact List.prefix_refl _
  | n + 1, p, h => by
    by_cases e : p = n + 1
    · subst e; exact List.prefix_refl _
    · exact (rfo_prefix (by omega)).trans ⟨d.pairAt n, rfl⟩
theorem pair_kind {d : Dat} {p : Nat} (h : ¬ d.kind p = 0) : d.pairAt p = [] := by simp [Dat.pairAt, h]
theorem pair_none {d : Dat} {p : Nat} (h : d.srch p p = none) : d.pairAt p = [] := by simp [Dat.pairAt, h]
theorem pair_same {d : Dat} {p w : Nat} (h : d.srch p p = some w) (ht : d.txn w = d.txn p) : d.pairAt p = [] := by simp [Dat.pairAt, h, ht]
theorem pair_yes {d : Dat} {p w : Nat} (hk : d.kind p = 0) (h : d.srch p p = some w) (ht : ¬ d.txn w = d.txn p) : d.pairAt p = [(w, p)] := by simp [Dat.pairAt, h, ht, hk]
/-- the round's end -/
theorem rgoal {d : Dat} {R : Blk} {bx A p : Nat} {wr' : World} {J : List (Nat × Nat) → World → Prop} {lc bc : Array Value} {be : Nat → Int} (hp : p < d.n) (hs : St d R bx A (p + 1) wr' lc bc be) (hJ : J (d.rfo (p + 1)) wr') :
    (∃ (p_1 : Nat) (lastc belc : Array Value) (bel : Nat → Int), p_1 ≤ d.n ∧ Value.int .i64 ((p : Int) + 1) = Value.int .i64 (p_1 : Int) ∧ St d R bx A p_1 wr' lastc belc bel ∧ J (d.rfo p_1) wr') ∧
    d.n - (intOf (.int .i64 ((p : Int) + 1))).toNat < d.n - (intOf (.int .i64 (p : Int))).toNat :=
  ⟨⟨p + 1, lc, bc, be, by omega, by go_num, hs, hJ⟩, by simp [intOf]; omega⟩
end Go.Proofs.Ybulkipk
