/-
  'Rows.LawS0465BOrderSaid': the frame is the given shell's; the walk is ours.
-/
import Derived.Test.YbulkipkRows
import Derived.WalkKit
import Derived.ProofKit
import Derived.OpenShut
import Derived.ShutString
import Derived.Test.YbulkipkLockLaws
namespace Go.Proofs.Ybulkipk.lawS0465BOrder
open Go.ChangeShapes Go.WideShapes Go.ChangeAt Go.RowKit
open Go.ChangeMaps (open_string shut_string)
set_option linter.unusedVariables false      -- a walk need not use every 'w<i>' (that an integer argument fits its kind)

theorem own : ownKnob Yba.prog.godebug = none := by kernel_rfl

/-! ### STEP 1: THE WALK: the Go text returns true. 'Grown w w'': the world has at most new blocks (Derived/RowKit3.lean). Part the cases AHEAD of 'go_enter' where a test parts the walk; take each callee by a contract of your own. -/
theorem f1 (x : Int) (h0 : 0 ≤ x) (h1 : x < 2147483648) : (ordT x != IntKind.u64.wrap (ordF x + 1)) = false := by
  rw [ordT_small x h0 h1, ordF_small x h0 h1, IntKind.wrap_u64]; simp; omega
theorem f2 (x y : Int) (h0 : 0 ≤ x) (h1 : x < y) (h2 : y < 2147483648) : ordT x < ordF y := by
  rw [ordT_small x h0 (by omega), ordF_small y (by omega) h2]; omega
theorem f4 (x : Int) (h0 : 0 ≤ x) (h1 : x < 2147483648) : (ordF x / 4294967296 == 1) = true := by
  rw [ordF_small x h0 h1]; simp; omega
theorem f5 (x : Int) (h0 : 0 ≤ x) (h1 : x < 2147483648) : (ordT x / 4294967296 == 1) = true := by
  rw [ordT_small x h0 h1]; simp; omega
set_option maxHeartbeats 400000 in
theorem order (p a b : Int) (w : World) (ha0 : 0 ≤ a) (ha1 : a ≤ 4294967295) (hb0 : 0 ≤ b) (hb1 : b ≤ 4294967295) :
    Calls Yba.prog 6 #[.int .i64 p, .int .u32 a, .int .u32 b] w fun e w' => e = .returned (.bool true) ∧ Grown w w' := by
  rcases Int.lt_trichotomy (a % 2147483648) (b % 2147483648) with hlt | heq | hgt
  · have g1 := f1 (a % 2147483648) (by omega) (by omega)
    have g2 := f2 (a % 2147483648) (b % 2147483648) (by omega) hlt (by omega)
    have g3 : (a % 2147483648 == b % 2147483648) = false := beq_eq_false_iff_ne.2 (by omega)
    have g4 := f4 (a % 2147483648) (by omega) (by omega)
    have g5 := f5 (a % 2147483648) (by omega) (by omega)
    have g6 := f4 (b % 2147483648) (by omega) (by omega)
    go_enter Yba.func6, Yba.ntmps6
    go_wp2_with fail
    refine (lock_false _ _ _).mono ?_
    rintro e w' ⟨rfl, c1, c2, rfl⟩
    go_wp2_with fail
    refine (lock_true _ _ _).mono ?_
    rintro e w' ⟨rfl, c3, c4, rfl⟩
    go_wp2_with fail
    refine (lock_false _ _ _).mono ?_
    rintro e w' ⟨rfl, c5, c6, rfl⟩
    go_wp2
    go_ret
    exact ⟨rfl, by repeat (first | exact Grown.refl _ | apply Grown.drew | apply Grown.alloc)⟩
  · have g1 := f1 (b % 2147483648) (by omega) (by omega)
    have g4 := f4 (b % 2147483648) (by omega) (by omega)
    have g5 := f5 (b % 2147483648) (by omega) (by omega)
    go_enter Yba.func6, Yba.ntmps6
    go_wp2_with fail
    refine (lock_false _ _ _).mono ?_
    rintro e w' ⟨rfl, c1, c2, rfl⟩
    go_wp2_with fail
    refine (lock_true _ _ _).mono ?_
    rintro e w' ⟨rfl, c3, c4, rfl⟩
    go_wp2_with fail
    refine (lock_false _ _ _).mono ?_
    rintro e w' ⟨rfl, c5, c6, rfl⟩
    go_wp2
    go_ret
    exact ⟨rfl, by repeat (first | exact Grown.refl _ | apply Grown.drew | apply Grown.alloc)⟩
  · have g1 := f1 (b % 2147483648) (by omega) (by omega)
    have g2 := f2 (b % 2147483648) (a % 2147483648) (by omega) hgt (by omega)
    have g3 : (b % 2147483648 == a % 2147483648) = false := beq_eq_false_iff_ne.2 (by omega)
    have g4 := f4 (b % 2147483648) (by omega) (by omega)
    have g5 := f5 (b % 2147483648) (by omega) (by omega)
    have g6 := f4 (a % 2147483648) (by omega) (by omega)
    go_enter Yba.func6, Yba.ntmps6
    go_wp2_with fail
    refine (lock_false _ _ _).mono ?_
    rintro e w' ⟨rfl, c1, c2, rfl⟩
    go_wp2_with fail
    refine (lock_true _ _ _).mono ?_
    rintro e w' ⟨rfl, c3, c4, rfl⟩
    go_wp2_with fail
    refine (lock_false _ _ _).mono ?_
    rintro e w' ⟨rfl, c5, c6, rfl⟩
    go_wp2
    go_ret
    exact ⟨rfl, by repeat (first | exact Grown.refl _ | apply Grown.drew | apply Grown.alloc)⟩

theorem walk (a0 : Int) (a1 : Int) (a2 : Int) (w0 : (Lit.int .i64 a0).wf = true) (w1 : (Lit.int .u32 a1).wf = true) (w2 : (Lit.int .u32 a2).wf = true) (w : World) :
    Calls Yba.prog 6 #[.int .i64 a0, .int .u32 a1, .int .u32 a2] w fun e w' => e = .returned (.bool true) ∧ Grown w w' := by
  obtain ⟨l1, u1⟩ := bounds_u32 w1
  obtain ⟨l2, u2⟩ := bounds_u32 w2
  exact order a0 a1 a2 w l1 u1 l2 u2

/-! ### THE ROW's STEP: WRITTEN OUT: LEAVE IT -/
set_option maxRecDepth 100000 in
theorem lifted (os : Os) (started : os.Started) (H : Type) (enc : TypeId × Value → H) :
    ReturnsInHanded {} Yba.checked os 6 .any (Rows.lawS0465BOrderSpec.pre6 enc Yba.prog Yba.f6 Rows.lawS0465BOrderRow.domain false) (Rows.lawS0465BOrderSpec.post enc Yba.prog Yba.f6 false true false false) := by
  refine returnsInHanded_of_change (C := Yba.checked) own started (by kernel_rfl) Yba.func6
    (ChangeSpec.witness6 (enc := enc) (C := Yba.checked) false ⟨#[], #[.int .i64 0, .int .u32 0, .int .u32 0], []⟩ 8 (by kernel_rfl) (by kernel_rfl) (by kernel_rfl) (by kernel_rfl)) ?_
  intro W base args ds gs before hval0 hW hcnd _
  have hval : ∀ (j : Nat) t v, Yba.f6.params[j]? = some t → args[j]? = some v → Value.okWide Yba.prog W .any base t v := hval0
  have hW' := hW
  obtain ⟨p, q, hA0, hV, rfl, hfz, hnd⟩ := hW
  have hA : DataW.TrodAll enc Yba.prog W 0 (fun _ => true) true Yba.f6.params.toList args.toList ds p := hA0
  rw [Yba.params6] at hA hval
  obtain ⟨v0, vs0, d0, ds0, p0, q0, hargs, rfl, rfl, h0, r0⟩ := trodAll_cons hA
  obtain ⟨v1, vs1, d1, ds1, p1, q1, rfl, rfl, rfl, h1, r1⟩ := trodAll_cons r0
  obtain ⟨v2, vs2, d2, ds2, p2, q2, rfl, rfl, rfl, h2, r2⟩ := trodAll_cons r1
  obtain ⟨rfl, rfl, rfl⟩ := trodAll_nil r2
  obtain rfl : args = #[v0, v1, v2] := by cases args; simp_all
  obtain ⟨rfl, rfl⟩ := trodVars_none hV
  obtain ⟨a0, rfl, rfl, rfl, w0⟩ := open_int Yba.underlying3 (hval 0 3 v0 rfl rfl) h0
  obtain ⟨a1, rfl, rfl, rfl, w1⟩ := open_int Yba.underlying39 (hval 1 39 v1 rfl rfl) h1
  obtain ⟨a2, rfl, rfl, rfl, w2⟩ := open_int Yba.underlying39 (hval 2 39 v2 rfl rfl) h2
  clear hA0 hval0
  simp only [List.append_nil] at hW'
  refine (walk a0 a1 a2 w0 w1 w2 W).mono fun e W' ⟨he, hg⟩ => ?_
  subst he
  exact ⟨_, rfl, post_of_same (pa := []) (pv := []) hW' (fun _ _ _ => (trodAll_cons_mk (shut_bool Yba.underlying4 _) trodAll_mk0)) (fun sp _ => (trodAll_cons_mk (shut_int Yba.underlying3 w0) (trodAll_cons_mk (shut_int Yba.underlying39 w1) (trodAll_cons_mk (shut_int Yba.underlying39 w2) trodAll_mk0)))) (fun _ _ => rfl) rfl
    (hg.frame _) hg.2.1 (ok_one (by kernel_rfl) rfl (okWide_bool_mk Yba.underlying4 _))⟩

theorem over : Rows.lawS0465BOrderRow.holds Yba.pinned (OpenSpec.ofChange Rows.lawS0465BOrderSpec) :=
  OpenClaim.holds_of_wide 6 Yba.f6 rfl rfl rfl rfl rfl rfl rfl ⟨rfl, rfl, rfl, rfl, rfl⟩ rfl rfl rfl rfl rfl (by kernel_rfl) Yba.func6 (by kernel_rfl)
    (of_decide_eq_true (by kernel_rfl)) (by unfold Func.isWrapper; first | (rw [if_pos (by decide +kernel)]; kernel_rfl) | (rw [if_neg (by decide +kernel)]; exact ⟨rfl, rfl⟩))
    (fun os started H enc _ => lifted os started H enc)

/-- ████ THE STATEMENT ████ -/
theorem proved : Rows.LawS0465BOrderSaid :=
  over
end Go.Proofs.Ybulkipk.lawS0465BOrder
