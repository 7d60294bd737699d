/-
  The contract of slices.Repeat at []int32{-1} and a count of at most 2 (functions 21, 27, 30).
-/
import Derived.Test.YbulkipkRows
import Derived.WalkKit
import Derived.ProofKit
import Derived.WalkLawsBesides

import Derived.Laws.CopyRow
import Derived.Deep.WholeRow
import Derived.Deep.Draws
import Derived.RegionTactic
namespace Go.Proofs.Ybulkipk
open Go.ChangeShapes Go.WideShapes Go.ChangeAt Go.RowKit
theorem b0 : bits .and .u64 0 4294967295 = 0 := by decide +kernel
theorem b1 : bits .and .u64 1 4294967295 = 1 := by decide +kernel
theorem b2 : bits .and .u64 2 4294967295 = 2 := by decide +kernel
set_option maxHeartbeats 400000 in
theorem mul_m (w : World) (m : Nat) (hm : m ≤ 2) :
    Calls Yba.prog 30 #[.int .u64 1, .int .u64 (m : Int)] w fun e w' => e = .returned (.tuple #[.int .u64 0, .int .u64 (m : Int)]) ∧ w' = w := by
  have h0 := b0
  have h1 := b1
  have h2 := b2
  have hc : m = 0 ∨ m = 1 ∨ m = 2 := by omega
  rcases hc with rfl | rfl | rfl
  all_goals
    go_enter Yba.func30, Yba.ntmps30
    go_wp2
    go_ret2
    exact ⟨rfl, rfl⟩
set_option maxHeartbeats 400000 in
theorem mulw_m (w : World) (m : Nat) (hm : m ≤ 2) :
    Calls Yba.prog 27 #[.int .u64 1, .int .u64 (m : Int)] w fun e w' => e = .returned (.tuple #[.int .u64 0, .int .u64 (m : Int)]) ∧ w' = w := by
  go_enter Yba.func27, Yba.ntmps27
  go_wp2_with fail
  refine (mul_m _ m hm).mono ?_
  rintro e w' ⟨rfl, rfl⟩
  go_wp2
  go_ret2
  exact ⟨rfl, rfl⟩
theorem info21 : (Yba.prog.info? 21).map (fun i => (i.zero, i.size, i.bytes)) = some (some (.int .i32 0), 1, 4) := by kernel_rfl
theorem cell_g {w : World} {g : Nat} {cs : Array Value} (hg : w.heap[g]? = some (.cells cs 21 (0, 0))) (o : Obj) : (w.alloc o).heap[g]? = some (.cells cs 21 (0, 0)) :=
  (Below.heap_alloc w o g (Array.getElem?_eq_some_iff.1 hg).1).trans hg
theorem addr0 (g j : Nat) : (⟨g, 0, none⟩ : Addr).add j = ⟨g, j, none⟩ := by unfold Addr.add; split <;> simp_all
/-- the first copy of slices.Repeat -/
theorem copy1 (w : World) (g : Nat) (hg : w.heap[g]? = some (.cells #[.int .i32 (-1)] 21 (0, 0))) (z : Value) (r : List Value) (n : Nat) (hn : (z :: r).length = n) :
    (Builtin.copy_ #[46, 46] 3 #[.slice (some ⟨w.heap.size, 0, none⟩) n n, .slice (some ⟨g, 0, none⟩) 1 1]).run Yba.prog (w.alloc (.cells (z :: r).toArray 21)) = .ok (.int .i64 1) (w.alloc (.cells (.int .i32 (-1) :: r).toArray 21)) := by
  subst hn
  have h := run_copy_row Yba.prog (w.alloc (.cells (z :: r).toArray 21)) 46 46 3 21 w.heap.size 0 (z :: r).length (z :: r).length ⟨g, 0, none⟩ 1 1 (z :: r).toArray 21 [.int .i32 (-1)] Yba.underlying46 (by kernel_rfl) (heap_alloc_last w _)
    (by simp) (fun j v hv => by
      obtain rfl : j = 0 := by
        have := (List.getElem?_eq_some_iff.1 hv).1
        simp at this; omega
      rw [addr0, cell_of_row _ _ _ _ _ _ (cell_g hg _)]
      simpa using hv) (by simp) (by simp [Value.oneCell'])
  rw [World.setRow_alloc_new] at h
  simpa [goInt] using h
theorem copy0 (w : World) (g : Nat) :
    (Builtin.copy_ #[46, 46] 3 #[.slice (some ⟨w.heap.size, 0, none⟩) 0 0, .slice (some ⟨g, 0, none⟩) 1 1]).run Yba.prog (w.alloc (.cells #[] 21)) = .ok (.int .i64 0) (w.alloc (.cells #[] 21)) := by
  have h := run_copy_row Yba.prog (w.alloc (.cells #[] 21)) 46 46 3 21 w.heap.size 0 0 0 ⟨g, 0, none⟩ 1 1 #[] 21 [] Yba.underlying46 (by kernel_rfl) (heap_alloc_last w _)
    (by simp) (fun j v hv => by simp at hv) (by simp) (by simp)
  rw [World.setRow_alloc_new] at h
  simpa [goInt] using h
theorem copy2 (w : World) (k : Nat) :
    (Builtin.copy_ #[46, 46] 3 #[.slice (some ⟨w.heap.size, 1, none⟩) 1 1, .slice (some ⟨w.heap.size, 0, none⟩) 1 2]).run Yba.prog ((w.alloc (.cells #[.int .i32 (-1), .int .i32 0] 21)).drewN k) = .ok (.int .i64 1) ((w.alloc (.cells #[.int .i32 (-1), .int .i32 (-1)] 21)).drewN k) := by
  have h := run_copy_row Yba.prog ((w.alloc (.cells #[.int .i32 (-1), .int .i32 0] 21)).drewN k) 46 46 3 21 w.heap.size 1 1 1 ⟨w.heap.size, 0, none⟩ 1 2 #[.int .i32 (-1), .int .i32 0] 21 [.int .i32 (-1)] Yba.underlying46 (by kernel_rfl) (heap_alloc_last w _)
    (by simp) (fun j v hv => by
      obtain rfl : j = 0 := by
        have := (List.getElem?_eq_some_iff.1 hv).1
        simp at this; omega
      rw [addr0, World.cell?_drewN, cell_of_row _ _ _ _ _ _ (heap_alloc_last w _)]
      simpa using hv) (by simp) (by simp [Value.oneCell'])
  have e : ((w.alloc (.cells #[.int .i32 (-1), .int .i32 0] 21)).drewN k).setRow w.heap.size #[.int .i32 (-1), .int .i32 (-1)] = (w.alloc (.cells #[.int .i32 (-1), .int .i32 (-1)] 21)).drewN k := by
    show ((w.alloc (.cells #[.int .i32 (-1), .int .i32 0] 21)).setRow w.heap.size #[.int .i32 (-1), .int .i32 (-1)]).drewN k = _
    rw [World.setRow_alloc_new]
  rw [← e]
  simpa [goInt] using h
set_option maxHeartbeats 400000 in
theorem rep2 (w : World) (g : Nat) (hg : w.heap[g]? = some (.cells #[.int .i32 (-1)] 21 (0, 0))) :
    Calls Yba.prog 21 #[.slice (some ⟨g, 0, none⟩) 1 1, .int .i64 2] w fun e w' => e = .returned (.slice (some ⟨w.heap.size, 0, none⟩) 2 2) ∧ ∃ k, w' = (w.alloc (.cells #[.int .i32 (-1), .int .i32 (-1)] 21)).drewN k := by
  have hmk : ∀ w : World, (Instr.makeSlice 46 (.int .i64 2) (.int .i64 2)).run Yba.prog w = .ok (.slice (some ⟨w.heap.size, 0, none⟩) 2 2) (w.alloc (.cells #[.int .i32 0, .int .i32 0] 21)) := fun _ => by kernel_rfl
  have hc1 : (Builtin.copy_ #[46, 46] 3 #[.slice (some ⟨w.heap.size, 0, none⟩) 2 2, .slice (some ⟨g, 0, none⟩) 1 1]).run Yba.prog (w.alloc (.cells #[.int .i32 0, .int .i32 0] 21)) = .ok (.int .i64 1) (w.alloc (.cells #[.int .i32 (-1), .int .i32 0] 21)) := copy1 w g hg (.int .i32 0) [.int .i32 0] 2 rfl
  have hc2 : (Builtin.copy_ #[46, 46] 3 #[.slice (some ⟨w.heap.size, 1, none⟩) 1 1, .slice (some ⟨w.heap.size, 0, none⟩) 1 2]).run Yba.prog (w.alloc (.cells #[.int .i32 (-1), .int .i32 0] 21)).drew = .ok (.int .i64 1) (w.alloc (.cells #[.int .i32 (-1), .int .i32 (-1)] 21)).drew := copy2 w 1
  go_enter Yba.func21, Yba.ntmps21
  go_wp2_with fail
  refine (mulw_m _ 2 (by omega)).mono ?_
  rintro e w' ⟨rfl, rfl⟩
  go_wp2_with fail
  clear hmk hc1
  go_loopw [8] (fun i wr => (i = .int .i64 1 ∧ wr = w'.alloc (.cells #[.int .i32 (-1), .int .i32 0] 21)) ∨ (i = .int .i64 2 ∧ ∃ k, wr = (w'.alloc (.cells #[.int .i32 (-1), .int .i32 (-1)] 21)).drewN k)) (fun i _ => 2 - (intOf i).toNat)
  case atStart => exact .inl ⟨rfl, rfl⟩
  case round =>
    rcases hrel with ⟨rfl, rfl⟩ | ⟨rfl, k, rfl⟩
    · go_wp2_with fail
      go_region
      go_wp2_with fail
      go_roundw
      case rel => exact .inr ⟨rfl, 1, rfl⟩
      case measure => simp [intOf]
    · go_wp2
      go_ret
      exact ⟨rfl, k, rfl⟩
set_option maxHeartbeats 400000 in
theorem rep1 (w : World) (g : Nat) (hg : w.heap[g]? = some (.cells #[.int .i32 (-1)] 21 (0, 0))) :
    Calls Yba.prog 21 #[.slice (some ⟨g, 0, none⟩) 1 1, .int .i64 1] w fun e w' => e = .returned (.slice (some ⟨w.heap.size, 0, none⟩) 1 1) ∧ ∃ k, w' = (w.alloc (.cells #[.int .i32 (-1)] 21)).drewN k := by
  have hmk : ∀ w : World, (Instr.makeSlice 46 (.int .i64 1) (.int .i64 1)).run Yba.prog w = .ok (.slice (some ⟨w.heap.size, 0, none⟩) 1 1) (w.alloc (.cells #[.int .i32 0] 21)) := fun _ => by kernel_rfl
  have hc1 : (Builtin.copy_ #[46, 46] 3 #[.slice (some ⟨w.heap.size, 0, none⟩) 1 1, .slice (some ⟨g, 0, none⟩) 1 1]).run Yba.prog (w.alloc (.cells #[.int .i32 0] 21)) = .ok (.int .i64 1) (w.alloc (.cells #[.int .i32 (-1)] 21)) := copy1 w g hg (.int .i32 0) [] 1 rfl
  go_enter Yba.func21, Yba.ntmps21
  go_wp2_with fail
  refine (mulw_m _ 1 (by omega)).mono ?_
  rintro e w' ⟨rfl, rfl⟩
  go_wp2_with fail
  clear hmk hc1
  go_loopw [8] (fun i wr => i = .int .i64 1 ∧ wr = w'.alloc (.cells #[.int .i32 (-1)] 21)) (fun _ _ => 0)
  case atStart => exact ⟨rfl, rfl⟩
  case round =>
    obtain ⟨rfl, rfl⟩ := hrel
    go_wp2
    go_ret
    exact ⟨rfl, 0, rfl⟩
set_option maxHeartbeats 400000 in
theorem rep0 (w : World) (g : Nat) :
    Calls Yba.prog 21 #[.slice (some ⟨g, 0, none⟩) 1 1, .int .i64 0] w fun e w' => e = .returned (.slice (some ⟨w.heap.size, 0, none⟩) 0 0) ∧ ∃ k, w' = (w.alloc (.cells #[] 21)).drewN k := by
  have hmk : ∀ w : World, (Instr.makeSlice 46 (.int .i64 0) (.int .i64 0)).run Yba.prog w = .ok (.slice (some ⟨w.heap.size, 0, none⟩) 0 0) (w.alloc (.cells #[] 21)) := fun _ => by kernel_rfl
  have hc1 := copy0 w g
  go_enter Yba.func21, Yba.ntmps21
  go_wp2_with fail
  refine (mulw_m _ 0 (by omega)).mono ?_
  rintro e w' ⟨rfl, rfl⟩
  go_wp2_with fail
  clear hmk hc1
  go_loopw [8] (fun i wr => i = .int .i64 0 ∧ wr = w'.alloc (.cells #[] 21)) (fun _ _ => 0)
  case atStart => exact ⟨rfl, rfl⟩
  case round =>
    obtain ⟨rfl, rfl⟩ := hrel
    go_wp2
    go_ret
    exact ⟨rfl, 0, rfl⟩
/-- slices.Repeat([]int32{-1}, m), m at most 2 -/
theorem repeat_any (w : World) (g m : Nat) (hm : m ≤ 2) (hg : w.heap[g]? = some (.cells #[.int .i32 (-1)] 21 (0, 0))) :
    Calls Yba.prog 21 #[.slice (some ⟨g, 0, none⟩) 1 1, .int .i64 (m : Int)] w fun e w' => e = .returned (.slice (some ⟨w.heap.size, 0, none⟩) m m) ∧
      ∃ k cs, w' = (w.alloc (.cells cs 21)).drewN k ∧ cs.size = m ∧ ∀ j, j < m → cs[j]? = some (.int .i32 (-1)) := by
  have hc : m = 0 ∨ m = 1 ∨ m = 2 := by omega
  rcases hc with rfl | rfl | rfl
  · refine (rep0 w g).mono ?_
    rintro e w' ⟨rfl, k, rfl⟩
    exact ⟨rfl, k, _, rfl, rfl, fun j hj => by omega⟩
  · refine (rep1 w g hg).mono ?_
    rintro e w' ⟨rfl, k, rfl⟩
    exact ⟨rfl, k, _, rfl, rfl, fun j hj => by obtain rfl : j = 0 := by omega
                                               rfl⟩
  · refine (rep2 w g hg).mono ?_
    rintro e w' ⟨rfl, k, rfl⟩
    refine ⟨rfl, k, _, rfl, rfl, fun j hj => ?_⟩
    have hj : j = 0 ∨ j = 1 := by omega
    rcases hj with rfl | rfl <;> rfl
end Go.Proofs.Ybulkipk
