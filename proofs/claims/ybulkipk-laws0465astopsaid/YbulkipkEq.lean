/-
  The contract of 'zzs0465aeq' (function 10) at two slices that hold the same numbers: true.
-/
import Derived.Test.YbulkipkRows
import Derived.WalkKit
import Derived.ProofKit
import Derived.WalkLawsBesides
import Derived.Deep.QuietTactic
import Derived.BigQuiet
import Derived.Laws.OwnMore
namespace Go.Proofs.Ybulkipk
open Go.ChangeShapes Go.WideShapes Go.ChangeAt Go.RowKit
/-- 'w' after some draws. -/
def Drawn (w w' : World) : Prop := ∃ n, w' = w.drewN n
theorem Drawn.refl (w : World) : Drawn w w := ⟨0, rfl⟩
theorem Drawn.more {w w' : World} (h : Drawn w w') (n : Nat) : Drawn w (w'.drewN n) := by
  obtain ⟨m, rfl⟩ := h
  exact ⟨m + n, World.drewN_drewN _ _ _⟩
theorem Drawn.cell {w w' : World} (h : Drawn w w') (a : Addr) : w'.cell? a = w.cell? a := by
  obtain ⟨m, rfl⟩ := h
  rfl
set_option maxHeartbeats 400000 in
theorem eq_zero (a b : Option Addr) (ca cb : Nat) (w : World) :
    Calls Yba.prog 10 #[.slice a 0 ca, .slice b 0 cb] w fun e w' => e = .returned (.bool true) ∧ Drawn w w' := by
  go_enter Yba.func10, Yba.ntmps10
  go_wp2_with fail
  go_loopw [13] (fun i wr => i = .int .i64 0 ∧ Drawn w wr) (fun _ _ => 0)
  case atStart => exact ⟨rfl, Drawn.refl w⟩
  case round =>
    obtain ⟨rfl, hd⟩ := hrel
    go_wp2
    go_ret
    exact ⟨rfl, hd⟩
set_option maxHeartbeats 400000 in
theorem eq_some (ga gb k ca cb : Nat) (f : Nat → Int) (w : World) (hk : k ≤ 1000) (ha : ∀ j, j < k → w.cell? ⟨ga, j, none⟩ = some (.int .i64 (f j))) (hb : ∀ j, j < k → w.cell? ⟨gb, j, none⟩ = some (.int .i64 (f j))) :
    Calls Yba.prog 10 #[.slice (some ⟨ga, 0, none⟩) k ca, .slice (some ⟨gb, 0, none⟩) k cb] w fun e w' => e = .returned (.bool true) ∧ Drawn w w' := by
  have HA : Hid _ := ha
  have HB : Hid _ := hb
  clear ha hb
  go_enter Yba.func10, Yba.ntmps10
  go_wp2_with fail
  go_loopw [13] (fun i wr => ∃ j : Nat, j ≤ k ∧ i = .int .i64 j ∧ Drawn w wr) (fun i _ => k - (intOf i).toNat)
  case atStart => exact ⟨0, Nat.zero_le _, rfl, Drawn.refl w⟩
  case round =>
    obtain ⟨j, hj, rfl, hd⟩ := hrel
    by_cases hlt : j < k
    · have c1 : wr.cell? ⟨ga, j, none⟩ = some (.int .i64 (f j)) := (hd.cell _).trans (HA.out j hlt)
      have c2 : wr.cell? ⟨gb, j, none⟩ = some (.int .i64 (f j)) := (hd.cell _).trans (HB.out j hlt)
      go_wp2_with fail
      go_quiet (fail)
      go_wp2_with fail
      exact ⟨⟨j + 1, by omega, by go_num, hd.more _⟩, by simp [intOf]; omega⟩
    · go_wp2
      go_ret
      exact ⟨rfl, hd⟩
end Go.Proofs.Ybulkipk
