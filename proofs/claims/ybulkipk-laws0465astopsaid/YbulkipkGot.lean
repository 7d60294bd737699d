/-
  What the two A laws share: the builder's answer, the caller's 'got' between two rounds, two equal rows.
-/
import Derived.Test.YbulkipkDirty
import Derived.Test.YbulkipkBuild
import Derived.Test.YbulkipkEq
import Derived.Test.YbulkipkApp
import Derived.RangeFuncBox
namespace Go.Proofs.Ybulkipk
open Go.RowKit Go.Shelf
/-- what the builder's call hands back -/
def Built (w : World) (len : Nat) (e : Ending) (w' : World) : Prop := ∃ (d : Dat) (R : Blk), e = .returned (.pointer (some ⟨R.b, 0, none⟩)) ∧ d.Good ∧ d.n = len ∧ IxAt d R w' ∧ Below w.heap.size w w' ∧ ∀ k, R.has k → w.heap.size ≤ k ∧ k < w'.heap.size
/-- the caller's 'got' between two rounds: its box gb, its first row ga; nothing of [lo, hi) is its own -/
structure Got (w : World) (d : Dat) (R : Blk) (ga gb hi : Nat) (pre : List (Nat × Nat)) (v : Value) (X : World) : Prop where
  box : Boxed X gb 25 v
  own : X.ownsRow ga 3 1 v (fl pre).length (fl pre)
  blk : ∀ k, v.ownBlock = some k → k = ga ∨ hi ≤ k
  ix : IxAt d R X
  bel : Below w.heap.size w X
theorem Got.moves {w : World} {d : Dat} {R : Blk} {ga gb lo n hi : Nat} {pre : List (Nat × Nat)} {v : Value} {X Y : World} (h : Got w d R ga gb hi pre v X) (hm : Moves lo n X Y) (h0 : ga ≤ gb) (h2 : gb < lo) (h3 : lo + n ≤ hi) (h4 : w.heap.size ≤ lo)
    (hR : ∀ k, R.has k → k < ga) : Got w d R ga gb hi pre v Y := by
  have hgb : gb < X.heap.size := h.box.lt
  have hk : ∀ k, k < X.heap.size → (k < lo ∨ lo + n ≤ k) → Y.heap[k]? = X.heap[k]? := hm.block
  refine ⟨(hk gb hgb (.inl h2)).trans h.box, ?_, h.blk, ?_, ?_⟩
  · obtain ⟨o1, o2⟩ := h.own
    refine ⟨o1, ?_⟩
    rcases o2 with o2 | ⟨g, cap, cur, hv, hg, hh, r⟩
    · exact .inl o2
    · have hb := h.blk g (by rw [hv]; rfl)
      exact .inr ⟨g, cap, cur, hv, hg, (hk g (Array.getElem?_eq_some_iff.1 hh).1 (by omega)).trans hh, r⟩
  · refine h.ix.of_same (fun k hk' => ?_)
    have := hR k hk'
    exact hk k (by omega) (by omega)
  · exact ⟨hm.os.trans h.bel.os, hm.tape.trans h.bel.tape, hm.output.trans h.bel.output, Nat.le_trans h.bel.size hm.size, fun k hk' => (hk k (Nat.lt_of_lt_of_le hk' h.bel.size) (.inl (by omega))).trans (h.bel.block k hk')⟩
/-- behind 'got = append(got, w, r)' -/
theorem Got.push {w : World} {d : Dat} {R : Blk} {ga gb hi : Nat} {pre : List (Nat × Nat)} {x : Nat × Nat} {v v' : Value} {X w1 : World} {o : Obj} (h : Got w d R ga gb hi pre v X) (h0 : ga < gb) (hga : w.heap.size ≤ ga) (hhi : hi ≤ X.heap.size) (hgh : gb < hi) (hR : ∀ k, R.has k → k < ga)
    (hown : w1.ownsRow ga 3 1 v' ((fl pre).length + 2) (fl pre ++ [.int .i64 (x.1 : Int), .int .i64 (x.2 : Int)])) (hg : (X.alloc o).grownBy w1 v.ownBlock) (hblk : ∀ j, v'.ownBlock = some j → v.ownBlock = some j ∨ (X.alloc o).heap.size ≤ j) :
    Boxed w1 gb 25 v ∧ Got w d R ga gb hi (pre ++ [x]) v' (w1.setCell ⟨gb, 0, none⟩ v') ∧ Keeps (fun k => k = ga ∨ k = gb) hi X (w1.setCell ⟨gb, 0, none⟩ v') := by
  have hgb := h.box.lt
  obtain ⟨a1, a2, a3, a4, a5⟩ := h.box.appended (by decide) h.own (by omega) (by omega) hown hg
  have hkeep : ∀ k, k < hi → ¬ (k = ga ∨ k = gb) → (w1.setCell ⟨gb, 0, none⟩ v').heap[k]? = X.heap[k]? := fun k hk hn => by
    rw [Below.heap_setCell _ _ _ _ (by show k ≠ gb; omega), hg.block k (by simp; omega) (fun e => by have := h.blk k e.symm; omega), Below.heap_alloc _ _ _ (by omega)]
  refine ⟨a1, ⟨a2, ?_, fun k hk => ?_, h.ix.of_same (fun k hk => hkeep k (by have := hR k hk; omega) (by have := hR k hk; omega)), ?_⟩, ?_⟩
  · rw [fl_snoc, List.length_append]; exact a3
  · rcases hblk k hk with e | e
    · exact h.blk k e
    · simp at e; exact .inr (by omega)
  · exact h.bel.trans (a5.mono hga)
  · exact ⟨a5.os, a5.tape, a5.output, a5.size, hkeep⟩
theorem fl_int (l : List (Nat × Nat)) : ∀ u, u ∈ fl l → ∃ x : Int, u = .int .i64 x := by
  intro u hu
  simp only [fl, List.mem_flatMap] at hu
  obtain ⟨a, _, hu⟩ := hu
  simp at hu
  rcases hu with rfl | rfl
  · exact ⟨_, rfl⟩
  · exact ⟨_, rfl⟩
/-- the j-th number -/
def nth (l : List Value) (j : Nat) : Int := match l[j]? with | some (.int .i64 x) => x | _ => 0
theorem nth_fl (l : List (Nat × Nat)) (j : Nat) (hj : j < (fl l).length) : (fl l)[j]? = some (.int .i64 (nth (fl l) j)) := by
  obtain ⟨x, hx⟩ := fl_int l (fl l)[j] (List.getElem_mem hj)
  have : (fl l)[j]? = some (.int .i64 x) := by rw [List.getElem?_eq_getElem hj, hx]
  unfold nth
  rw [this]
theorem eq_rows (w : World) (b1 b2 : Nat) (v1 v2 : Value) (l : List (Nat × Nat)) (h1 : w.ownsRow b1 3 1 v1 (fl l).length (fl l)) (h2 : w.ownsRow b2 3 1 v2 (fl l).length (fl l)) (hl : (fl l).length ≤ 1000) :
    Calls Yba.prog 10 #[v1, v2] w fun e w' => e = .returned (.bool true) ∧ Drawn w w' := by
  by_cases h0 : (fl l).length = 0
  · obtain ⟨a1, c1, rfl⟩ := own_form h1
    obtain ⟨a2, c2, rfl⟩ := own_form h2
    rw [h0]
    exact eq_zero a1 a2 c1 c2 w
  · rcases h1.2 with ⟨_, e⟩ | ⟨g1, c1, cur1, rfl, _⟩
    · exact absurd e h0
    · rcases h2.2 with ⟨_, e⟩ | ⟨g2, c2, cur2, rfl, _⟩
      · exact absurd e h0
      · exact eq_some g1 g2 _ c1 c2 (nth (fl l)) w hl (fun j hj => (h1.cellAt j (by omega)).trans (nth_fl l j hj)) (fun j hj => (h2.cellAt j (by omega)).trans (nth_fl l j hj))
theorem own_below {X Y : World} {base e size n B : Nat} {v : Value} {xs : List Value} (h : X.ownsRow base e size v n xs) (hb : Below B X Y) (hB : X.heap.size ≤ B) : Y.ownsRow base e size v n xs := by
  obtain ⟨o1, o2⟩ := h
  refine ⟨o1, ?_⟩
  rcases o2 with o2 | ⟨g, cap, cur, hv, hg, hh, r⟩
  · exact .inl o2
  · exact .inr ⟨g, cap, cur, hv, hg, (hb.block g (Nat.lt_of_lt_of_le (Array.getElem?_eq_some_iff.1 hh).1 hB)).trans hh, r⟩
theorem Drawn.own {X Y : World} (hd : Drawn X Y) {base e size n : Nat} {v : Value} {xs : List Value} (h : X.ownsRow base e size v n xs) : Y.ownsRow base e size v n xs := by
  obtain ⟨m, rfl⟩ := hd
  exact h
theorem Drawn.heap {X Y : World} (hd : Drawn X Y) : Y.heap = X.heap := by
  obtain ⟨m, rfl⟩ := hd
  rfl
theorem Drawn.below {X Y : World} (hd : Drawn X Y) (B : Nat) : Below B X Y := by
  obtain ⟨m, rfl⟩ := hd
  exact ⟨rfl, rfl, rfl, Nat.le_refl _, fun _ _ => rfl⟩
end Go.Proofs.Ybulkipk
