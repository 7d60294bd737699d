/-
  The Index in memory, and the contracts of the small functions that read it: 28, 23, 26, 18, 22, 24, 25.
-/
import Derived.Test.YbulkipkRows
import Derived.Test.YbulkipkPlain
import Derived.WalkKit
import Derived.ProofKit
import Derived.WalkLawsBesides
namespace Go.Proofs.Ybulkipk
open Go.ChangeShapes Go.WideShapes Go.ChangeAt Go.RowKit
/-- the numbers of the Index's blocks -/
structure Blk where
  b : Nat
  bs : Nat
  be : Nat
  bt : Nat
  bi : Nat
def Blk.has (R : Blk) (k : Nat) : Prop := k = R.b ∨ k = R.bs ∨ k = R.be ∨ k = R.bt ∨ k = R.bi
structure IxAt (d : Dat) (R : Blk) (W : World) : Prop where
  f0 : W.cell? ⟨R.b, 0, none⟩ = some (.slice (some ⟨R.bs, 0, none⟩) d.n d.n)
  f2 : W.cell? ⟨R.b, 2, none⟩ = some (.slice (some ⟨R.be, 0, none⟩) d.ne d.ne)
  f3 : W.cell? ⟨R.b, 3, none⟩ = some (.bool d.hold)
  f4 : W.cell? ⟨R.b, 4, none⟩ = some (.int .i64 (d.items : Int))
  f5 : W.cell? ⟨R.b, 5, none⟩ = some (.slice (some ⟨R.bt, 0, none⟩) d.n d.n)
  f6 : W.cell? ⟨R.b, 6, none⟩ = some (.slice (some ⟨R.bi, 0, none⟩) d.n d.n)
  kind : ∀ p, p < d.n → W.cell? ⟨R.bs, p * 3, none⟩ = some (.int .u8 (d.kind p : Int))
  txn : ∀ p, p < d.n → W.cell? ⟨R.bs, p * 3 + 1, none⟩ = some (.int .i64 (d.txn p : Int))
  item : ∀ p, p < d.n → W.cell? ⟨R.bs, p * 3 + 2, none⟩ = some (.string (d.item p))
  ends : ∀ t, t < d.ne → W.cell? ⟨R.be, t, none⟩ = some (.int .i64 (d.ends t : Int))
  oT : ∀ p, p < d.n → W.cell? ⟨R.bt, p, none⟩ = some (.int .i32 (d.oT p : Int))
  oI : ∀ p, p < d.n → W.cell? ⟨R.bi, p, none⟩ = some (.int .i32 (d.oI p))
theorem IxAt.of_same {d : Dat} {R : Blk} {W W' : World} (h : IxAt d R W) (hs : ∀ k, R.has k → W'.heap[k]? = W.heap[k]?) : IxAt d R W' := by
  have c : ∀ k o, R.has k → W'.cell? ⟨k, o, none⟩ = W.cell? ⟨k, o, none⟩ := fun k o hk => World.cell?_of_block (w := W) (hs k hk)
  have h1 : R.has R.b := .inl rfl
  have h2 : R.has R.bs := .inr (.inl rfl)
  have h3 : R.has R.be := .inr (.inr (.inl rfl))
  have h4 : R.has R.bt := .inr (.inr (.inr (.inl rfl)))
  have h5 : R.has R.bi := .inr (.inr (.inr (.inr rfl)))
  exact ⟨(c _ _ h1).trans h.f0, (c _ _ h1).trans h.f2, (c _ _ h1).trans h.f3, (c _ _ h1).trans h.f4, (c _ _ h1).trans h.f5, (c _ _ h1).trans h.f6,
    fun p hp => (c _ _ h2).trans (h.kind p hp), fun p hp => (c _ _ h2).trans (h.txn p hp), fun p hp => (c _ _ h2).trans (h.item p hp),
    fun t ht => (c _ _ h3).trans (h.ends t ht), fun p hp => (c _ _ h4).trans (h.oT p hp), fun p hp => (c _ _ h5).trans (h.oI p hp)⟩
set_option maxHeartbeats 400000 in
theorem ended_no (d : Dat) (R : Blk) (w : World) (h : IxAt d R w) (t q : Nat) (ht : t < d.ne) (hl : q ≤ d.ends t) (_hn : d.ne ≤ 3) (_he : d.ends t ≤ 300) :
    Calls Yba.prog 28 #[.pointer (some ⟨R.b, 0, none⟩), .int .i64 (t : Int), .int .i64 (q : Int)] w fun e w' => e = .returned (.tuple #[.int .u8 0, .bool false]) ∧ w' = w := by
  have c2 := h.f2
  have ce := h.ends t ht
  go_enter Yba.func28, Yba.ntmps28
  go_wp2
  go_ret2
  exact ⟨rfl, rfl⟩
set_option maxHeartbeats 400000 in
theorem ended_yes (d : Dat) (R : Blk) (w : World) (h : IxAt d R w) (t q : Nat) (ht : t < d.ne) (hl : d.ends t < q) (hq : q ≤ d.n) (_hn : d.ne ≤ 3) (_hnn : d.n ≤ 300) :
    Calls Yba.prog 28 #[.pointer (some ⟨R.b, 0, none⟩), .int .i64 (t : Int), .int .i64 (q : Int)] w fun e w' => e = .returned (.tuple #[.int .u8 (d.kind (d.ends t) : Int), .bool true]) ∧ w' = w := by
  have c2 := h.f2
  have c0 := h.f0
  have ce := h.ends t ht
  have hlt : d.ends t < d.n := by omega
  have ck := h.kind (d.ends t) hlt
  go_enter Yba.func28, Yba.ntmps28
  go_wp2
  go_ret2
  exact ⟨rfl, rfl⟩
set_option maxHeartbeats 400000 in
theorem aborted_any (d : Dat) (g : d.Good) (R : Blk) (w : World) (h : IxAt d R w) (q p : Nat) (hq : q < d.n) (hp : p ≤ d.n) :
    Calls Yba.prog 23 #[.pointer (some ⟨R.b, 0, none⟩), .int .i64 (q : Int), .int .i64 (p : Int)] w fun e w' => e = .returned (.bool (d.ab p q)) ∧ w' = w := by
  have c5 := h.f5
  have cT := h.oT q hq
  have hT := g.oT_lt q hq
  have hn := g.ne_le
  have hnn := g.n_le
  have he := g.ends_le _ hT
  by_cases hl : d.ends (d.oT q) < p
  · cases hk : (d.kind (d.ends (d.oT q)) == 3) with
    | true =>
      have hab : Hid (d.ab p q = true) := by show d.ab p q = true; simp only [Dat.ab, Dat.e, hk, hl, decide_true, Bool.and_self]
      have hk3 : ((d.kind (d.ends (d.oT q)) : Int) == 3) = true := by
        have : d.kind (d.ends (d.oT q)) = 3 := by simpa using hk
        rw [this]; rfl
      clear hk g
      go_enter Yba.func23, Yba.ntmps23
      go_wp2_with fail
      refine (ended_yes d R _ h (d.oT q) p hT hl hp hn hnn).mono ?_
      rintro e w' ⟨rfl, rfl⟩
      go_wp2
      go_ret
      exact ⟨by rw [hab.out]; rfl, rfl⟩
    | false =>
      have hab : Hid (d.ab p q = false) := by show d.ab p q = false; simp only [Dat.ab, Dat.e, hk, Bool.and_false]
      have hk3 : ((d.kind (d.ends (d.oT q)) : Int) == 3) = false := by
        have : ¬ d.kind (d.ends (d.oT q)) = 3 := by simpa using hk
        exact beq_eq_false_iff_ne.2 (by omega)
      clear hk g
      go_enter Yba.func23, Yba.ntmps23
      go_wp2_with fail
      refine (ended_yes d R _ h (d.oT q) p hT hl hp hn hnn).mono ?_
      rintro e w' ⟨rfl, rfl⟩
      go_wp2
      go_ret
      exact ⟨by rw [hab.out]; rfl, rfl⟩
  · have hab : Hid (d.ab p q = false) := by show d.ab p q = false; simp [Dat.ab, Dat.e, hl]
    clear g
    go_enter Yba.func23, Yba.ntmps23
    go_wp2_with fail
    refine (ended_no d R _ h (d.oT q) p hT (by omega) hn (by omega)).mono ?_
    rintro e w' ⟨rfl, rfl⟩
    go_wp2
    go_ret
    exact ⟨by rw [hab.out]; rfl, rfl⟩
set_option maxHeartbeats 400000 in
theorem endedBefore_any (d : Dat) (g : d.Good) (R : Blk) (w : World) (h : IxAt d R w) (q p : Nat) (hq : q < d.n) (hp : p ≤ d.n) :
    Calls Yba.prog 26 #[.pointer (some ⟨R.b, 0, none⟩), .int .i64 (q : Int), .int .i64 (p : Int)] w fun e w' => e = .returned (.bool (decide (d.e q < p))) ∧ w' = w := by
  have c5 := h.f5
  have cT := h.oT q hq
  have hT := g.oT_lt q hq
  have hn := g.ne_le
  have hnn := g.n_le
  have he := g.ends_le _ hT
  by_cases hl : d.ends (d.oT q) < p
  · have hab : Hid (decide (d.e q < p) = true) := by show decide (d.e q < p) = true; simp [Dat.e, hl]
    clear g
    go_enter Yba.func26, Yba.ntmps26
    go_wp2_with fail
    refine (ended_yes d R _ h (d.oT q) p hT hl hp hn hnn).mono ?_
    rintro e w' ⟨rfl, rfl⟩
    go_wp2
    go_ret
    exact ⟨by rw [hab.out]; rfl, rfl⟩
  · have hab : Hid (decide (d.e q < p) = false) := by show decide (d.e q < p) = false; exact decide_eq_false (by unfold Dat.e; exact hl)
    clear g
    go_enter Yba.func26, Yba.ntmps26
    go_wp2_with fail
    refine (ended_no d R _ h (d.oT q) p hT (by omega) hn (by omega)).mono ?_
    rintro e w' ⟨rfl, rfl⟩
    go_wp2
    go_ret
    exact ⟨by rw [hab.out]; rfl, rfl⟩
set_option maxHeartbeats 400000 in
theorem readsDirty_any (d : Dat) (g : d.Good) (R : Blk) (w : World) (h : IxAt d R w) (q p : Nat) (hq : q < d.n) (hp : p ≤ d.n) :
    Calls Yba.prog 18 #[.pointer (some ⟨R.b, 0, none⟩), .int .i64 (q : Int), .int .i64 (p : Int)] w fun e w' => e = .returned (.bool (d.dirtyB (q, p))) ∧ w' = w := by
  have c3 := h.f3
  cases hh : d.hold with
  | false =>
    have hab : Hid (d.dirtyB (q, p) = false) := by show d.dirtyB (q, p) = false; simp [Dat.dirtyB, hh]
    rw [hh] at c3
    clear hh
    go_enter Yba.func18, Yba.ntmps18
    go_wp2
    go_ret
    exact ⟨by rw [hab.out]; rfl, rfl⟩
  | true =>
    have hab : Hid (d.dirtyB (q, p) = !decide (d.e q < p)) := by
      show d.dirtyB (q, p) = !decide (d.e q < p)
      rw [Bool.eq_iff_iff]; simp [Dat.dirtyB, hh]
    rw [hh] at c3
    clear hh
    go_enter Yba.func18, Yba.ntmps18
    go_wp2_with fail
    refine (endedBefore_any d g R _ h q p hq hp).mono ?_
    rintro e w' ⟨rfl, rfl⟩
    go_wp2
    go_ret
    exact ⟨by rw [hab.out]; rfl, rfl⟩
set_option maxHeartbeats 400000 in
theorem abortedBy_neg (w : World) (bx : Nat) (p : Int) :
    Calls Yba.prog 22 #[.int .i32 (-1), .int .i64 p, .pointer (some ⟨bx, 0, none⟩)] w fun e w' => e = .returned (.bool false) ∧ w' = w := by
  go_enter Yba.func22, Yba.ntmps22
  go_wp2
  go_ret
  exact ⟨rfl, rfl⟩
set_option maxHeartbeats 400000 in
theorem abortedBy_pos (d : Dat) (g : d.Good) (R : Blk) (w : World) (h : IxAt d R w) (bx q p : Nat) (hbx : w.cell? ⟨bx, 0, none⟩ = some (.pointer (some ⟨R.b, 0, none⟩))) (hq : q < d.n) (hp : p ≤ d.n) :
    Calls Yba.prog 22 #[.int .i32 (q : Int), .int .i64 (p : Int), .pointer (some ⟨bx, 0, none⟩)] w fun e w' => e = .returned (.bool (d.ab p q)) ∧ w' = w := by
  have hnn := g.n_le
  go_enter Yba.func22, Yba.ntmps22
  go_wp2_with fail
  refine (aborted_any d g R _ h q p hq hp).mono ?_
  rintro e w' ⟨rfl, rfl⟩
  go_wp2
  go_ret
  exact ⟨rfl, rfl⟩
theorem reads_any (k : Nat) (w : World) : Calls Yba.prog 24 #[.int .u8 (k : Int)] w fun e w' => e = .returned (.bool ((k : Int) == 0)) ∧ w' = w := by
  go_enter Yba.func24, Yba.ntmps24
  go_wp2
  go_ret
  exact ⟨rfl, rfl⟩
theorem writes_any (k : Nat) (w : World) : Calls Yba.prog 25 #[.int .u8 (k : Int)] w fun e w' => e = .returned (.bool ((k : Int) == 1)) ∧ w' = w := by
  go_enter Yba.func25, Yba.ntmps25
  go_wp2
  go_ret
  exact ⟨rfl, rfl⟩
end Go.Proofs.Ybulkipk
