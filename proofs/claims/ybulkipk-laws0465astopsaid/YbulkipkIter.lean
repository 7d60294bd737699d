/-
  ITERATORS THAT KEEP STATE IN CELLS OF THEIR OWN: a contract ('Iter') and the law of the range statement over it, at the fence that asks nothing. After the kit's 'wpIn_rangeFunc_ownK'; what differs: the iterator may turn the blocks [A, A + d) that it lays itself ahead of its first round; the round may turn the blocks of T alone (and what was laid later).
-/
import Derived.RangeFuncNested
import Derived.RangeFuncBound
import Derived.RangeFuncCalls
import Derived.RangeFuncLeaves
import Derived.Shelf.Abstract
import Derived.Below
import Derived.TacticsIn
import Derived.Deep.Draws
import Derived.WalkKit
namespace Go.Proofs.Ybulkipk
open Go.RowKit Go.Shelf
/-- an iterator's steps -/
structure Moves (A d : Nat) (W W' : World) : Prop where
  os : W'.os = W.os
  tape : W'.tape = W.tape
  output : W'.output = W.output
  size : W.heap.size ≤ W'.heap.size
  block : ∀ k, k < W.heap.size → (k < A ∨ A + d ≤ k) → W'.heap[k]? = W.heap[k]?
/-- a round's promise -/
structure Keeps (T : Nat → Prop) (B : Nat) (W W' : World) : Prop where
  os : W'.os = W.os
  tape : W'.tape = W.tape
  output : W'.output = W.output
  size : W.heap.size ≤ W'.heap.size
  block : ∀ k, k < B → ¬ T k → W'.heap[k]? = W.heap[k]?
theorem Moves.refl (A d : Nat) (W : World) : Moves A d W W := ⟨rfl, rfl, rfl, Nat.le_refl _, fun _ _ _ => rfl⟩
theorem Moves.trans {A d : Nat} {X Y Z : World} (h : Moves A d X Y) (k : Moves A d Y Z) : Moves A d X Z :=
  ⟨k.os.trans h.os, k.tape.trans h.tape, k.output.trans h.output, Nat.le_trans h.size k.size, fun i hi hn => (k.block i (Nat.lt_of_lt_of_le hi h.size) hn).trans (h.block i hi hn)⟩
theorem Moves.alloc (A d : Nat) (W : World) (o : Obj) : Moves A d W (W.alloc o) :=
  ⟨rfl, rfl, rfl, by simp, fun k hk _ => Below.heap_alloc W o k hk⟩
theorem Moves.drewN (A d : Nat) (W : World) (n : Nat) : Moves A d W (W.drewN n) := ⟨rfl, rfl, rfl, Nat.le_refl _, fun _ _ _ => rfl⟩
theorem Moves.setCell {A d : Nat} (W : World) (p : Addr) (v : Value) (h1 : A ≤ p.block) (h2 : p.block < A + d) : Moves A d W (W.setCell p v) :=
  ⟨rfl, rfl, rfl, by simp [World.setCell], fun k _ hn => Below.heap_setCell W p v k (by omega)⟩
theorem Moves.putObj {A d : Nat} (W : World) (l : Nat) (o : Obj) (h1 : A ≤ l) (h2 : l < A + d) : Moves A d W (W.putObj l o) :=
  ⟨rfl, rfl, rfl, by simp, fun k _ hn => World.putObj_heap_other (by omega)⟩
theorem Moves.wider {A d A' d' : Nat} {W W' : World} (h : Moves A d W W') (h1 : A' ≤ A) (h2 : A + d ≤ A' + d') : Moves A' d' W W' :=
  ⟨h.os, h.tape, h.output, h.size, fun k hk hn => h.block k hk (by omega)⟩
theorem Keeps.refl (T : Nat → Prop) (B : Nat) (W : World) : Keeps T B W W := ⟨rfl, rfl, rfl, Nat.le_refl _, fun _ _ _ => rfl⟩
theorem Keeps.trans {T : Nat → Prop} {B : Nat} {X Y Z : World} (h : Keeps T B X Y) (k : Keeps T B Y Z) : Keeps T B X Z :=
  ⟨k.os.trans h.os, k.tape.trans h.tape, k.output.trans h.output, Nat.le_trans h.size k.size, fun i hi hn => (k.block i hi hn).trans (h.block i hi hn)⟩
theorem Keeps.weaker {T T' : Nat → Prop} {B B' : Nat} {W W' : World} (h : Keeps T B W W') (hT : ∀ k, T k → T' k) (hB : B' ≤ B) : Keeps T' B' W W' :=
  ⟨h.os, h.tape, h.output, h.size, fun k hk hn => h.block k (by omega) (fun t => hn (hT k t))⟩
theorem Keeps.alloc (T : Nat → Prop) {B : Nat} (W : World) (o : Obj) (h : B ≤ W.heap.size) : Keeps T B W (W.alloc o) :=
  ⟨rfl, rfl, rfl, by simp, fun k hk _ => Below.heap_alloc W o k (by omega)⟩
theorem Keeps.drewN (T : Nat → Prop) (B : Nat) (W : World) (n : Nat) : Keeps T B W (W.drewN n) := ⟨rfl, rfl, rfl, Nat.le_refl _, fun _ _ _ => rfl⟩
theorem Keeps.putObj {T : Nat → Prop} {B : Nat} (W : World) (l : Nat) (o : Obj) (h : T l) : Keeps T B W (W.putObj l o) :=
  ⟨rfl, rfl, rfl, by simp, fun k _ hn => World.putObj_heap_other (fun e => hn (e ▸ h))⟩

/-- the two values that a round is handed -/
def encs (x : Nat × Nat) : Array Value := #[.int .i64 (x.1 : Int), .int .i64 (x.2 : Int)]

/-- THE ITERATOR's CONTRACT: called in W with the yield of whatever loop: it hands on xs, one by one, or as far as the rounds let it. -/
def Iter (P : Program) (g : Nat) (lb : Array Value) (d : Nat) (T : Nat → Prop) (xs : List (Nat × Nat)) (W : World) : Prop :=
  ∀ (l : Nat) (J Jx : List (Nat × Nat) → World → Prop),
    (∀ s X Y, J s X → Moves W.heap.size d X Y → J s Y) → (∀ s X Y, Jx s X → Moves W.heap.size d X Y → Jx s Y) →
    (∀ pre x X, J pre X → pre ++ [x] <+: xs → W.heap.size + d ≤ X.heap.size → YieldAt Fence.wide 0 P l (encs x) X fun e X' =>
      (e = .returned (.bool true) ∧ J (pre ++ [x]) X' ∧ Keeps T (W.heap.size + d) X X') ∨ (e = .returned (.bool false) ∧ Jx (pre ++ [x]) X' ∧ Keeps T (W.heap.size + d) X X')) →
    J [] W →
    CallsIn Fence.wide 0 P g (#[.func (.yield l) #[] #[]] ++ lb) W fun e W' => (∃ v, e = .returned v) ∧ (J xs W' ∨ ∃ pre, pre <+: xs ∧ Jx pre W')

/-- how a round's body may be left -/
def rpost (T : Nat → Prop) (B : Nat) (I : List (Nat × Nat) → World → Prop) (Ix : Code → List (Nat × Nat) → World → Prop) (ys : List (Nat × Nat)) (W : World) : Exit → Act → World → Prop
  | .normal, _, W' => Keeps T B W W' ∧ I ys W'
  | .ret, _, W' => Keeps T B W W' ∧ Ix .ret ys W'
  | .exit id, _, W' => Keeps T B W W' ∧ Ix (.exit id) ys W'
  | .goto t, _, W' => Keeps T B W W' ∧ Ix (.goto t) ys W'
  | .panic _, _, _ => False
  | .outgrown, _, _ => False

theorem range_law {P : Program} {g : Operand} {ps : Array Tmp} {assign body : Code} {Q : Exit → Act → World → Prop} {a : Act} {w : World}
    {gf : Nat} {lb : Array Value} (hg : a.eval g = .func (.func gf) #[] lb) (eg : ∀ args w, (callFunc gf args).run P w = .ok (.enter gf args) w)
    (T : Nat → Prop) (hT : ∀ k, T k → k < w.heap.size) (d : Nat) (xs : List (Nat × Nat))
    (hseq : ∀ W1, Below w.heap.size w W1 → W1.heap.size = w.heap.size + 2 → Iter P gf lb d (fun k => T k ∨ k = w.heap.size + 1) xs W1)
    (hps : ps.size = 2) (I : List (Nat × Nat) → World → Prop) (Ix : Code → List (Nat × Nat) → World → Prop)
    (hI : ∀ s X Y, I s X → Moves w.heap.size (2 + d) X Y → I s Y) (hIx : ∀ c s X Y, Ix c s X → Moves w.heap.size (2 + d) X Y → Ix c s Y)
    (h0 : I [] w) (a₁ : Nat × Nat → Act)
    (hassign : ∀ (l : Nat) (x : Nat × Nat) (W : World) (K : Act → World → Prop), K (a₁ x) W →
      assign.wpIn (Fence.wide.inRound l) 0 P (Exit.then K (fun _ _ _ => False)) { tmps := (ps.zip (encs x)).foldl (fun t (p, v) => t.setIfInBounds p v) a.tmps, defers := [] } W)
    (hbody : ∀ (l : Nat) (pre : List (Nat × Nat)) (x : Nat × Nat) (W : World), I pre W → pre ++ [x] <+: xs → w.heap.size + 2 + d ≤ W.heap.size →
      body.wpIn (Fence.wide.inRound l) 0 P (rpost T (w.heap.size + 2 + d) I Ix (pre ++ [x]) W) (a₁ x) W)
    (hdone : ∀ (D : Nat) (W : World), I xs W → W.heap[D]? = some (.deferred (some [])) → w.heap.size ≤ D → D < w.heap.size + 2 → Q .normal { a with defers := { target := .collected D, args := #[] } :: a.defers } W)
    (hstop : ∀ (D : Nat) (c : Code) (pre : List (Nat × Nat)) (W : World), pre <+: xs → Ix c pre W → W.heap[D]? = some (.deferred (some [])) → w.heap.size ≤ D → D < w.heap.size + 2 →
      c.wpIn Fence.wide 0 P Q { a with defers := { target := .collected D, args := #[] } :: a.defers } W) :
    (Code.rangeFunc g ps assign body).wpIn Fence.wide 0 P Q a w := by
  refine wpIn_rangeFunc ?_
  intro fn hfn
  rw [Fence.wide_round]
  obtain ⟨rec, hrec⟩ : ∃ rec : LoopState → Option Code → Loop, rec = fun st pe => { state := st, pending := pe, fn, tmps := a.tmps, params := ps, assign, body, defers := w.heap.size } := ⟨_, rfl⟩
  obtain ⟨W1, hW1⟩ : ∃ W1, (w.alloc (.deferred (some []))).alloc (.loop (rec .ready none)) = W1 := ⟨_, rfl⟩
  have hs1 : W1.heap.size = w.heap.size + 2 := by rw [← hW1]; simp
  have hL1 : W1.heap[w.heap.size + 1]? = some (.loop (rec .ready none)) := by
    rw [← hW1]; have := World.alloc_heap_new (w.alloc (.deferred (some []))) (.loop (rec .ready none)); rwa [World.size_alloc] at this
  have hK1 : W1.heap[w.heap.size]? = some (.deferred (some [])) := by
    rw [← hW1]; exact (Below.heap_alloc _ _ _ (by simp)).trans (World.alloc_heap_new w _)
  have hI1 : I [] W1 := by rw [← hW1]; exact hI _ _ _ (hI _ _ _ h0 (Moves.alloc _ _ _ _)) (Moves.alloc _ _ _ _)
  have hb1 : Below w.heap.size w W1 := by
    rw [← hW1]; exact ((Below.refl _ w).alloc (Nat.le_refl _) _).alloc (by simp) _
  have hnT : ∀ k, w.heap.size ≤ k → ¬ T k := fun k hk t => by have := hT k t; omega
  refine ⟨w.heap.size + 1, [{ target := .collected w.heap.size, args := #[] }], W1, { target := .fn (.func gf) lb, args := #[.func (.yield (w.heap.size + 1)) #[] #[]] }, W1, gf,
    #[.func (.yield (w.heap.size + 1)) #[] #[]] ++ lb, W1, ?_, ?_, ?_, ?_, fun h => by simp [Fence.wide] at h, ?_⟩
  · rw [← hW1, hrec]; exact run_enterLoop_outer _ _ _ _ _
  · simp only [resolve, hg]
    simp [go_sem]
  · intro f' hf'; simp [Target.leads] at hf'; subst hf'; trivial
  · simp [invoke, go_sem, eg]
  · have hkeep : ∀ {X Y : World} {k : Nat} {o : Obj}, k < w.heap.size + 2 → X.heap[k]? = some o → Moves W1.heap.size d X Y → Y.heap[k]? = some o := fun {X Y k o} hk ho hm =>
      (hm.block k (Array.getElem?_eq_some_iff.1 ho).1 (by omega)).trans ho
    have hwide : ∀ {X Y : World}, Moves W1.heap.size d X Y → Moves w.heap.size (2 + d) X Y := fun hm => hm.wider (by omega) (by omega)
    refine (hseq W1 hb1 hs1 (w.heap.size + 1)
      (fun pre W => I pre W ∧ W.heap[w.heap.size + 1]? = some (.loop (rec .ready none)) ∧ W.heap[w.heap.size]? = some (.deferred (some [])))
      (fun pre W => ∃ c, Ix c pre W ∧ W.heap[w.heap.size + 1]? = some (.loop (rec .done (some c))) ∧ W.heap[w.heap.size]? = some (.deferred (some [])))
      (fun s X Y hs hm => ⟨hI s X Y hs.1 (hwide hm), hkeep (by omega) hs.2.1 hm, hkeep (by omega) hs.2.2 hm⟩)
      (fun s X Y hs hm => by
        obtain ⟨c, hc, hl, hk⟩ := hs
        exact ⟨c, hIx c s X Y hc (hwide hm), hkeep (by omega) hl hm, hkeep (by omega) hk hm⟩)
      ?_ ⟨hI1, hL1, hK1⟩).mono ?_
    · rintro pre x W ⟨hi, hl, hk⟩ hpre hsz
      have hlt : w.heap.size + 1 < W.heap.size := (Array.getElem?_eq_some_iff.1 hl).1
      have hy := run_yield (P := P) (args := encs x) hl (by rw [hrec]; simp [encs, hps])
      rw [hrec] at hy
      refine ⟨fn, _, assign, body, hy, roundIn_of_wpIn hfn (hassign _ x W _ ⟨_, run_beginRound hl (by rw [hrec]), ?_⟩)⟩
      have hl2 : (W.putObj (w.heap.size + 1) (.loop { rec .ready none with state := .busy })).heap[w.heap.size + 1]? = some (.loop { rec .ready none with state := .busy }) := World.putObj_heap_same hlt
      have hk2 : (W.putObj (w.heap.size + 1) (.loop { rec .ready none with state := .busy })).heap[w.heap.size]? = some (.deferred (some [])) := (World.putObj_heap_other (by omega)).trans hk
      have hm2 : Moves w.heap.size (2 + d) W (W.putObj (w.heap.size + 1) (.loop { rec .ready none with state := .busy })) := Moves.putObj _ _ _ (by omega) (by omega)
      have hw2 : Keeps (fun k => T k ∨ k = w.heap.size + 1) (W1.heap.size + d) W (W.putObj (w.heap.size + 1) (.loop { rec .ready none with state := .busy })) := Keeps.putObj _ _ _ (.inr rfl)
      refine wpIn_mono (hbody _ pre x _ (hI _ _ _ hi hm2) hpre (by simp; omega)) ?_
      have fin : ∀ (jump : Option Code) (W3 : World), Keeps T (w.heap.size + 2 + d) (W.putObj (w.heap.size + 1) (.loop { rec .ready none with state := .busy })) W3 →
          (Instr.endRound (w.heap.size + 1) jump).run P W3 = .ok (.bool jump.isNone) (W3.putObj (w.heap.size + 1) (.loop (rec (if jump.isNone then .ready else .done) jump))) ∧
          Moves w.heap.size (2 + d) W3 (W3.putObj (w.heap.size + 1) (.loop (rec (if jump.isNone then .ready else .done) jump))) ∧
          (W3.putObj (w.heap.size + 1) (.loop (rec (if jump.isNone then .ready else .done) jump))).heap[w.heap.size + 1]? = some (.loop (rec (if jump.isNone then .ready else .done) jump)) ∧
          (W3.putObj (w.heap.size + 1) (.loop (rec (if jump.isNone then .ready else .done) jump))).heap[w.heap.size]? = some (.deferred (some [])) := fun jump W3 hk3 => by
        have hl3 := (hk3.block _ (by omega) (hnT _ (by omega))).trans hl2
        have := run_endRound (P := P) jump hl3
        rw [hrec] at this ⊢
        exact ⟨this, Moves.putObj _ _ _ (by omega) (by omega), World.putObj_heap_same (Array.getElem?_eq_some_iff.1 hl3).1, (World.putObj_heap_other (by omega)).trans ((hk3.block _ (by omega) (hnT _ (by omega))).trans hk2)⟩
      rintro e a3 W3 hp
      cases e with
      | normal =>
        obtain ⟨hk3, hi3⟩ := hp
        obtain ⟨hr, hm3, hl4, hk4⟩ := fin none W3 hk3
        exact ⟨_, _, hr, .inl ⟨rfl, ⟨hI _ _ _ hi3 hm3, hl4, hk4⟩, (hw2.trans (hk3.weaker (fun k t => .inl t) (by omega))).trans (Keeps.putObj _ _ _ (.inr rfl))⟩⟩
      | ret =>
        obtain ⟨hk3, hi3⟩ := hp
        obtain ⟨hr, hm3, hl4, hk4⟩ := fin (some .ret) W3 hk3
        exact ⟨_, _, hr, .inr ⟨rfl, ⟨.ret, hIx _ _ _ _ hi3 hm3, hl4, hk4⟩, (hw2.trans (hk3.weaker (fun k t => .inl t) (by omega))).trans (Keeps.putObj _ _ _ (.inr rfl))⟩⟩
      | exit id =>
        obtain ⟨hk3, hi3⟩ := hp
        obtain ⟨hr, hm3, hl4, hk4⟩ := fin (some (.exit id)) W3 hk3
        exact ⟨_, _, hr, .inr ⟨rfl, ⟨.exit id, hIx _ _ _ _ hi3 hm3, hl4, hk4⟩, (hw2.trans (hk3.weaker (fun k t => .inl t) (by omega))).trans (Keeps.putObj _ _ _ (.inr rfl))⟩⟩
      | goto t =>
        obtain ⟨hk3, hi3⟩ := hp
        obtain ⟨hr, hm3, hl4, hk4⟩ := fin (some (.goto t)) W3 hk3
        exact ⟨_, _, hr, .inr ⟨rfl, ⟨.goto t, hIx _ _ _ _ hi3 hm3, hl4, hk4⟩, (hw2.trans (hk3.weaker (fun k t => .inl t) (by omega))).trans (Keeps.putObj _ _ _ (.inr rfl))⟩⟩
      | panic ch => exact hp.elim
      | outgrown => exact hp.elim
    · rintro e W2 ⟨⟨v, rfl⟩, (⟨hi, hl, hk⟩ | ⟨pre, hSp, c, hi, hl, hk⟩)⟩
      · exact ⟨none, _, by have := run_endLoop (P := P) hl (by rw [hrec]; simp); rw [hrec] at this; exact this, hdone _ _ (hI _ _ _ hi (Moves.putObj _ _ _ (by omega) (by omega))) ((World.putObj_heap_other (by omega)).trans hk) (Nat.le_refl _) (by omega)⟩
      · exact ⟨some c, _, by have := run_endLoop (P := P) hl (by rw [hrec]; simp); rw [hrec] at this; exact this, hstop _ c pre _ hSp (hIx _ _ _ _ hi (Moves.putObj _ _ _ (by omega) (by omega))) ((World.putObj_heap_other (by omega)).trans hk) (Nat.le_refl _) (by omega)⟩
end Go.Proofs.Ybulkipk
