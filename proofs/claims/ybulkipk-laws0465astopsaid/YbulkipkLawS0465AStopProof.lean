/-
  'Rows.LawS0465AStopSaid': the frame (a slice of structs of three bytes, handed back by 'Below.trod'); the walk: YbulkipkAStopWalk.
-/
import Derived.Test.YbulkipkRows
import Derived.WalkKit
import Derived.ProofKit
import Derived.OpenShut
import Derived.ChangeOld
import Derived.Below
import Derived.Test.YbulkipkOps
import Derived.Test.YbulkipkAStopWalk
namespace Go.Proofs.Ybulkipk.lawS0465AStop
open Go.ChangeShapes Go.WideShapes Go.ChangeAt Go.RowKit
set_option linter.unusedVariables false

theorem own : ownKnob Yba.prog.godebug = none := by kernel_rfl
theorem laidOut : laidOutB Yba.prog = true := by kernel_rfl

theorem ops_alloc {w : World} {a : Option Addr} {len : Nat} (h : IsOps w a len) (o : Obj) : IsOps (w.alloc o) a len := by
  obtain ⟨K, T, X, h⟩ := h
  refine ⟨K, T, X, fun i hi => ?_⟩
  obtain ⟨x, hx, h1, h2, h3⟩ := h i hi
  have hk : ∀ {p : Addr} {v : Value}, w.cell? p = some v → (w.alloc o).cell? p = some v := fun {p v} hc =>
    (World.cell?_of_block (Below.heap_alloc w o p.block (block_lt_of_cell hc))).trans hc
  exact ⟨x, hx, hk h1, hk h2, hk h3⟩

theorem walk (a : Option Addr) (len cap : Nat) (s : Int) (hs : (Lit.int .u8 s).wf = true) (w : World) (h : IsOps w a len) :
    Calls Yba.prog 4 #[.slice a len cap, .int .u8 s] w fun e w' => e = .returned (.bool true) ∧ Below w.heap.size w w' := by
  obtain ⟨l0, l1⟩ := bounds_u8 hs
  obtain ⟨n, rfl⟩ := Int.eq_ofNat_of_zero_le l0
  exact callsIn_wide.1 (astop w a len cap n (by omega) (fun hl o => built (w.alloc o) a len cap (ops_alloc h o) hl))

set_option maxRecDepth 100000 in
theorem lifted (os : Os) (started : os.Started) (H : Type) (enc : TypeId × Value → H) :
    ReturnsInHanded {} Yba.checked os 4 .any (Rows.lawS0465AStopSpec.pre6 enc Yba.prog Yba.f4 Rows.lawS0465AStopRow.domain false) (Rows.lawS0465AStopSpec.post enc Yba.prog Yba.f4 false true false false) := by
  refine returnsInHanded_of_change (C := Yba.checked) own started (by kernel_rfl) Yba.func4
    (ChangeSpec.witness6 (enc := enc) (C := Yba.checked) false ⟨#[], #[.slice none 0 0, .int .u8 0], []⟩ 8 (by kernel_rfl) (by kernel_rfl) (by kernel_rfl) (by kernel_rfl)) ?_
  intro W base args ds gs before hval0 hW hcnd _
  have hval : ∀ (j : Nat) t v, Yba.f4.params[j]? = some t → args[j]? = some v → Value.okWide Yba.prog W .any base t v := hval0
  have hW' := hW
  obtain ⟨p, q, hA0, hV, rfl, hfz, hnd⟩ := hW
  have hA : DataW.TrodAll enc Yba.prog W 0 (fun _ => true) true Yba.f4.params.toList args.toList ds p := hA0
  rw [Yba.params4] at hA hval
  obtain ⟨v0, vs0, d0, ds0, p0, q0, hargs, rfl, rfl, h0, r0⟩ := trodAll_cons hA
  obtain ⟨v1, vs1, d1, ds1, p1, q1, rfl, rfl, rfl, h1, r1⟩ := trodAll_cons r0
  obtain ⟨rfl, rfl, rfl⟩ := trodAll_nil r1
  obtain rfl : args = #[v0, v1] := by cases args; simp_all
  obtain ⟨rfl, rfl⟩ := trodVars_none hV
  obtain ⟨a0, len0, cap0, rfl⟩ := okWide_slice Yba.underlying22 (hval 0 22 v0 rfl rfl)
  obtain ⟨a1, rfl, rfl, rfl, w1⟩ := open_int Yba.underlying5 (hval 1 5 v1 rfl rfl) h1
  have k0 := h0
  have lt0 : ∀ x ∈ p0, x.block < W.heap.size := by obtain ⟨m, hm⟩ := k0; exact DataW.trod_lt m _ _ _ hm
  have w0 : IsOps W a0 len0 := by
    obtain ⟨fuel, hf⟩ := h0
    exact isOps hf
  clear hA0 hval0
  refine (walk a0 len0 cap0 a1 w1 W w0).mono fun e W' ⟨he, bel⟩ => ?_
  subst he
  exact ⟨_, rfl, _, _, _, [], _, [], hW', trodAll_mk1 (shut_bool Yba.underlying4 _), (trodAll_cons_mk (Below.trod laidOut (by kernel_rfl) (of_decide_eq_true (by kernel_rfl)) k0 bel lt0) (trodAll_cons_mk (shut_int Yba.underlying5 w1) trodAll_mk0)), rfl, bel.frame _, fun h => by cases h⟩

theorem over : Rows.lawS0465AStopRow.holds Yba.pinned (OpenSpec.ofChange Rows.lawS0465AStopSpec) :=
  OpenClaim.holds_of_wide 4 Yba.f4 rfl rfl rfl rfl rfl rfl rfl ⟨rfl, rfl, rfl, rfl, rfl⟩ rfl rfl rfl rfl rfl (by kernel_rfl) Yba.func4 (by kernel_rfl)
    (of_decide_eq_true (by kernel_rfl)) (by unfold Func.isWrapper; first | (rw [if_pos (by decide +kernel)]; kernel_rfl) | (rw [if_neg (by decide +kernel)]; exact ⟨rfl, rfl⟩))
    (fun os started H enc _ => lifted os started H enc)

/-- THE STATEMENT -/
theorem proved : Rows.LawS0465AStopSaid := over
end Go.Proofs.Ybulkipk.lawS0465AStop
