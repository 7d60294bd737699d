/-
  The walk of 'LawS0463AWindow' (function 3).
-/
import Derived.Test.YbulkioiWw
import Derived.Test.YbulkioiMid
import Derived.Deep.OwnRows
import Derived.WalkLawsBesides
import Derived.Deep.QuietTactic
import Derived.BigQuiet
namespace Go.Proofs.Ybulkioi
open Go.ChangeShapes Go.WideShapes Go.ChangeAt Go.RowKit
theorem info26 : (Yba.prog.info? 26).map (fun i => (i.zero, i.size, i.bytes)) = some (some (.agg #[.string ⟨#[]⟩, .int .i64 0, .string ⟨#[]⟩, .bool false]), 4, 48) := by kernel_rfl
theorem make23 (w : World) (n : Nat) (h : n ≤ 1024) : (Instr.makeSlice 23 (.int .i64 (n : Int)) (.int .i64 (n : Int))).run Yba.prog w = .ok (.slice (some ⟨w.heap.size, 0, none⟩) n n) (w.alloc (.cells (madeCells #[.string ⟨#[]⟩, .int .i64 0, .string ⟨#[]⟩, .bool false] (n * 4)) 26)) := by
  have h26 := info26
  cases hq : Yba.prog.info? 26 with
  | none => simp [hq] at h26
  | some i =>
    simp only [hq, Option.map_some, Option.some.injEq, Prod.mk.injEq] at h26
    obtain ⟨hz, hs, hb⟩ := h26
    have hr := run_make (P := Yba.prog) w 23 26 i _ Yba.underlying23 hq hz .i64 .i64 n n (by omega) (by omega) (by rw [hb]; omega) (by omega)
    simp only [Int.toNat_natCast, hs] at hr
    exact hr
/-- the cells of the parts, the first k of them set -/
def PartsTo (ss : Nat → ByteArray) (k n : Nat) (cs : Array Value) : Prop :=
  cs.size = n * 4 ∧ ∀ j, j < k → cs[j * 4]? = some (.string (ss j)) ∧ cs[j * 4 + 1]? = some (.int .i64 ((j : Int) % 8))
theorem parts_snoc {ss : Nat → ByteArray} {k n : Nat} {cs : Array Value} (h : PartsTo ss k n cs) (hk : k < n) :
    PartsTo ss (k + 1) n (splice cs (k * 4) [.string (ss k), .int .i64 ((k : Int) % 8), .string ⟨#[]⟩, .bool false]) := by
  obtain ⟨h1, h2⟩ := h
  have hf : k * 4 + [Value.string (ss k), .int .i64 ((k : Int) % 8), .string ⟨#[]⟩, .bool false].length ≤ cs.size := by simp [h1]; omega
  refine ⟨by rw [size_splice _ _ _ hf, h1], fun j hj => ?_⟩
  by_cases e : j = k
  · subst e
    have e0 := splice_in cs (j * 4) _ 0 hf (by simp)
    have e1 := splice_in cs (j * 4) _ 1 hf (by simp)
    exact ⟨e0, e1⟩
  · rw [splice_before _ _ _ _ hf (by omega), splice_before _ _ _ _ hf (by omega)]
    exact h2 j (by omega)
theorem parts_fit {ss : Nat → ByteArray} {k n : Nat} {cs : Array Value} (h : PartsTo ss k n cs) (hk : k < n) (a b c d : Value) : k * 4 + (#[a, b, c, d] : Array Value).size ≤ cs.size := by
  have := h.1; simp; omega
theorem info26s : (Yba.prog.info? 26).map (·.size) = some 4 := by kernel_rfl
/-- what the second loop reads -/
structure Facts (w : World) (b off k : Nat) (ss : Nat → ByteArray) (wr : World) : Prop where
  head : wr.cell? ⟨w.heap.size + 1 + 1, 0, none⟩ = some (.slice (some ⟨w.heap.size, 0, none⟩) k k)
  lab : ∀ i, i < k → wr.cell? ⟨w.heap.size, i * 4, none⟩ = some (.string (ss i))
  src : ∀ i, i < k → wr.cell? ⟨w.heap.size, i * 4 + 1, none⟩ = some (.int .i64 ((i : Int) % 8))
  arg : ∀ i, i < k → wr.cell? ⟨b, off + i, none⟩ = some (.string (ss i))
  bel : Below w.heap.size w wr
theorem Facts.drewN {w : World} {b off k : Nat} {ss : Nat → ByteArray} {wr : World} (h : Facts w b off k ss wr) (n : Nat) : Facts w b off k ss (wr.drewN n) :=
  ⟨h.head, h.lab, h.src, h.arg, h.bel.trans ⟨rfl, rfl, rfl, Nat.le_refl _, fun _ _ => rfl⟩⟩
theorem facts_start {w : World} {b off k : Nat} {ss : Nat → ByteArray} {cs c1 c2 : Array Value} (hp : PartsTo ss k k cs) (hb : b < w.heap.size)
    (hcell : ∀ i, i < k → w.cell? ⟨b, off + i, none⟩ = some (.string (ss i))) (h2 : c2[0]? = some (.slice (some ⟨w.heap.size, 0, none⟩) k k)) :
    Facts w b off k ss (((w.alloc (.cells cs 26)).alloc (.cells c1 41)).alloc (.cells c2 41)) := by
  have hB : Below w.heap.size w (((w.alloc (.cells cs 26)).alloc (.cells c1 41)).alloc (.cells c2 41)) := (((Below.refl _ w).alloc (Nat.le_refl _) _).alloc (by simp) _).alloc (by simp; omega) _
  have e2 : (((w.alloc (.cells cs 26)).alloc (.cells c1 41)).alloc (.cells c2 41)).heap[w.heap.size + 1 + 1]? = some (.cells c2 41 (0, 0)) := by
    have := heap_alloc2_new (w.alloc (.cells cs 26)) (.cells c1 41) (.cells c2 41)
    rwa [World.size_alloc] at this
  have e0 : (((w.alloc (.cells cs 26)).alloc (.cells c1 41)).alloc (.cells c2 41)).heap[w.heap.size]? = some (.cells cs 26 (0, 0)) := by
    rw [Below.heap_alloc _ _ _ (by simp; omega), Below.heap_alloc _ _ _ (by simp), heap_alloc_last]
  exact ⟨(cell_of_row _ _ _ _ _ _ e2).trans h2, fun i hi => (cell_of_row _ _ _ _ _ _ e0).trans (hp.2 i hi).1, fun i hi => (cell_of_row _ _ _ _ _ _ e0).trans (hp.2 i hi).2,
    fun i hi => (hB.cell (p := ⟨b, off + i, none⟩) hb).trans (hcell i hi), hB⟩
set_option maxRecDepth 100000 in
set_option maxHeartbeats 1000000 in
theorem walk_some (sep pfx tn : ByteArray) (inf : Bool) (fm un old wi : Int) (b off len cap : Nat) (ss : Nat → ByteArray) (w : World)
    (hf0 : 0 ≤ fm) (hf1 : fm ≤ 255) (hcell : ∀ i, i < len → w.cell? ⟨b, off + i, none⟩ = some (.string (ss i))) (hb : b < w.heap.size) :
    Calls Yba.prog 3 #[.string sep, .string pfx, .string tn, .bool inf, .int .u8 fm, .int .i64 un, .int .i64 old, .int .i64 wi, .slice (some ⟨b, off, none⟩) len cap] w fun e w' => e = .returned (.bool true) ∧ Below w.heap.size w w' := by
  by_cases hlen : len ≤ 1024
  · have hmk := make23 w len hlen
    have hd : decide (1024 < (len : Int)) = false := by simp; omega
    go_enter Yba.func3, Yba.ntmps3
    go_wp2_with fail
    go_loopw [20] (fun i wr => ∃ (k : Nat) (cs : Array Value), k ≤ len ∧ i = .int .i64 k ∧ PartsTo ss k len cs ∧ wr = w.alloc (.cells cs 26)) (fun i _ => len - (intOf i).toNat)
    case atStart => exact ⟨0, _, Nat.zero_le _, rfl, ⟨size_madeCells _ _, fun j hj => by omega⟩, rfl⟩
    case round =>
      obtain ⟨k, cs, hk, rfl, hp, rfl⟩ := hrel
      have HP : Hid _ := hp
      clear hp
      by_cases hlt : k < len
      · have hc := hcell k hlt
        go_wp2_with (refine wpList_store_mid_new rfl 26 _ _ rfl (k * 4) #[.string (ss k), .int .i64 ((k : Int) % 8), .string ⟨#[]⟩, .bool false] rfl rfl 26 cs (parts_fit HP.out hlt _ _ _ _) info26s (by simp [Value.oneCell']) ?_)
        go_roundw
        case rel => exact ⟨k + 1, _, by omega, by go_num, parts_snoc HP.out hlt, rfl⟩
        case measure => simp [intOf]; omega
      · obtain rfl : k = len := by omega
        have hfin : ∀ c1 c2 : Array Value, c2[0]? = some (.slice (some ⟨w.heap.size, 0, none⟩) k k) → Facts w b off k ss (((w.alloc (.cells cs 26)).alloc (.cells c1 41)).alloc (.cells c2 41)) := fun c1 c2 h2 => facts_start HP.out hb hcell h2
        have HF : Hid _ := hfin
        clear hmk hcell hfin
        have hne : ∀ c1 c2 c3 : Array Value, (binOp .eql 27 (.pointer (some ⟨w.heap.size + 1 + 1, 0, none⟩)) (.pointer (some ⟨w.heap.size + 1, 0, none⟩))).run Yba.prog (((w.alloc (.cells c1 26)).alloc (.cells c2 41)).alloc (.cells c3 41)) = .ok (.bool false) (((w.alloc (.cells c1 26)).alloc (.cells c2 41)).alloc (.cells c3 41)) := fun c1 c2 c3 => by
          obtain ⟨j, hj, hz⟩ := info41'
          have h1 := heap_alloc2_new (w.alloc (.cells c1 26)) (.cells c2 41) (.cells c3 41)
          have h2 := heap_alloc2_old (w.alloc (.cells c1 26)) (.cells c2 41) (.cells c3 41)
          rw [World.size_alloc] at h1 h2
          exact run_eql_ptr_other _ Yba.underlying27 hj hz (by simp) h1 h2
        go_wp2_with fail
        refine (ww _ _ _ _ _ _ _ _ _ _ _ _ _ _ _ _ _ _ _ _ _ _ _ _ (by simp [Value.oneCell']) (heap_alloc2_new _ _ _)).mono ?_
        rintro e w' ⟨rfl, rfl⟩
        go_wp2
        clear hne
        go_loopw [23] (fun i wr => ∃ j : Nat, j ≤ k ∧ i = .int .i64 j ∧ Facts w b off k ss wr) (fun i _ => k - (intOf i).toNat)
        case atStart => exact ⟨0, Nat.zero_le _, rfl, HF.out _ _ rfl⟩
        case round =>
          clear HF
          obtain ⟨j, hj, rfl, hF⟩ := hrel
          by_cases hjk : j < k
          · have f0 := hF.head
            have f1 := hF.lab j hjk
            have f2 := hF.src j hjk
            have f3 := hF.arg j hjk
            go_wp2_with fail
            go_quiet (fail)
            go_wp2
            go_roundw
            case rel => exact ⟨j + 1, by omega, by go_num, hF.drewN _⟩
            case measure => simp [intOf]; omega
          · go_wp2
            go_ret
            exact ⟨rfl, hF.bel⟩
  · go_enter Yba.func3, Yba.ntmps3
    go_wp2
    go_ret
    exact ⟨rfl, Below.refl _ _⟩
set_option maxRecDepth 100000 in
set_option maxHeartbeats 1000000 in
theorem walk_nil (sep pfx tn : ByteArray) (inf : Bool) (fm un old wi : Int) (a : Option Addr) (cap : Nat) (w : World) (hf0 : 0 ≤ fm) (hf1 : fm ≤ 255) :
    Calls Yba.prog 3 #[.string sep, .string pfx, .string tn, .bool inf, .int .u8 fm, .int .i64 un, .int .i64 old, .int .i64 wi, .slice a 0 cap] w fun e w' => e = .returned (.bool true) ∧ Below w.heap.size w w' := by
  have hmk : (Instr.makeSlice 23 (.int .i64 0) (.int .i64 0)).run Yba.prog w = .ok (.slice (some ⟨w.heap.size, 0, none⟩) 0 0) (w.alloc (.cells #[] 26)) := by simpa [madeCells, Array.range_zero'] using make23 w 0 (by omega)
  go_enter Yba.func3, Yba.ntmps3
  go_wp2_with fail
  go_loopw [20] (fun i wr => i = .int .i64 0 ∧ wr = w.alloc (.cells #[] 26)) (fun _ _ => 0)
  case atStart => exact ⟨rfl, rfl⟩
  case round =>
    obtain ⟨rfl, rfl⟩ := hrel
    clear hmk
    have hne : ∀ c1 c2 c3 : Array Value, (binOp .eql 27 (.pointer (some ⟨w.heap.size + 1 + 1, 0, none⟩)) (.pointer (some ⟨w.heap.size + 1, 0, none⟩))).run Yba.prog (((w.alloc (.cells c1 26)).alloc (.cells c2 41)).alloc (.cells c3 41)) = .ok (.bool false) (((w.alloc (.cells c1 26)).alloc (.cells c2 41)).alloc (.cells c3 41)) := fun c1 c2 c3 => by
      obtain ⟨j, hj, hz⟩ := info41'
      have h1 := heap_alloc2_new (w.alloc (.cells c1 26)) (.cells c2 41) (.cells c3 41)
      have h2 := heap_alloc2_old (w.alloc (.cells c1 26)) (.cells c2 41) (.cells c3 41)
      rw [World.size_alloc] at h1 h2
      exact run_eql_ptr_other _ Yba.underlying27 hj hz (by simp) h1 h2
    go_wp2_with fail
    refine (ww _ _ _ _ _ _ _ _ _ _ _ _ _ _ _ _ _ _ _ _ _ _ _ _ (by simp [Value.oneCell']) (heap_alloc2_new _ _ _)).mono ?_
    rintro e w' ⟨rfl, rfl⟩
    go_wp2
    clear hne
    go_loopw [23] (fun i wr => i = .int .i64 0 ∧ Below w.heap.size w wr) (fun _ _ => 0)
    case atStart => exact ⟨rfl, (((Below.refl _ w).alloc (Nat.le_refl _) _).alloc (by simp) _).alloc (by simp; omega) _⟩
    case round =>
      obtain ⟨rfl, hF⟩ := hrel
      go_wp2
      go_ret
      exact ⟨rfl, hF⟩
end Go.Proofs.Ybulkioi
