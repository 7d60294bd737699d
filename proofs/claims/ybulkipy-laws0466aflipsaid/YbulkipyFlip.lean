/-
  The walk of 'LawS0466AFlip' (function 4).
-/
import Derived.Test.YbulkipyFold
import Derived.Deep.OwnRows
import Derived.Laws.IdiomStrings
import Derived.Deep.WholeRow
namespace Go.Proofs.Ybulkipy
open Go.ChangeShapes Go.WideShapes Go.ChangeAt Go.RowKit
set_option linter.unusedVariables false
theorem info5 : (Yba.prog.info? 5).map (fun i => (i.zero, i.size, i.bytes)) = some (some (.int .u8 0), 1, 1) := by kernel_rfl
structure Upto (a : ByteArray) (k : Nat) (l : List UInt8) (cs : Array Value) : Prop where
  len : l.length = k
  size : cs.size = a.size
  cell : ∀ j (h : j < l.length), cs[j]? = some (.int .u8 (l[j].toNat : Int))
  low : ∀ j (h : j < l.length), lowI (l[j].toNat : Int) = lowI (byteAt a j)
theorem low_of (c v : Int) (h : v = c ∨ (v = c + 32 ∧ 65 ≤ c ∧ c ≤ 90) ∨ (v = c - 32 ∧ 97 ≤ c ∧ c ≤ 122)) : lowI v = lowI c := by
  unfold lowI
  by_cases h1 : 65 ≤ v ∧ v ≤ 90 <;> by_cases h2 : 65 ≤ c ∧ c ≤ 90 <;> simp [h1, h2] <;> omega
theorem upto_snoc {a : ByteArray} {k : Nat} {l : List UInt8} {cs : Array Value} (hu : Upto a k l cs) (hlt : k < a.size) (v : Int)
    (h : v = (a[k].toNat : Int) ∨ (v = (a[k].toNat : Int) + 32 ∧ 65 ≤ (a[k].toNat : Int) ∧ (a[k].toNat : Int) ≤ 90) ∨ (v = (a[k].toNat : Int) - 32 ∧ 97 ≤ (a[k].toNat : Int) ∧ (a[k].toNat : Int) ≤ 122)) :
    Upto a (k + 1) (l ++ [UInt8.ofNat v.toNat]) (cs.setIfInBounds k (.int .u8 v)) := by
  have hb := a[k].toNat_lt
  have hv : 0 ≤ v ∧ v ≤ 255 := by omega
  have hl := low_of _ _ h
  have hn : ((UInt8.ofNat v.toNat).toNat : Int) = v := by
    have e : (UInt8.ofNat v.toNat).toNat = v.toNat % 256 := by simp
    rw [e]; omega
  have e1 := hu.len
  have e2 := hu.size
  refine ⟨by simp [e1], by simp [e2], fun j hj => ?_, fun j hj => ?_⟩
  · by_cases e : j = k
    · subst e
      have : (l ++ [UInt8.ofNat v.toNat])[j] = UInt8.ofNat v.toNat := by simp [← e1]
      rw [this, hn, Array.getElem?_setIfInBounds_self_of_lt (by omega)]
    · have hj' : j < l.length := by simp at hj; omega
      rw [List.getElem_append_left hj', ← hu.cell j hj', Array.getElem?_setIfInBounds_ne (by omega)]
  · by_cases e : j = k
    · subst e
      have : (l ++ [UInt8.ofNat v.toNat])[j] = UInt8.ofNat v.toNat := by simp [← e1]
      rw [this, hn, hl, byteAt_eq a j hlt]
    · have hj' : j < l.length := by simp at hj; omega
      rw [List.getElem_append_left hj']
      exact hu.low j hj'
theorem round_goal {a : ByteArray} {k : Nat} {l : List UInt8} {cs : Array Value} {w : World} (hu : Upto a k l cs) (hlt : k < a.size) (v : Int)
    (h : v = (a[k].toNat : Int) ∨ (v = (a[k].toNat : Int) + 32 ∧ 65 ≤ (a[k].toNat : Int) ∧ (a[k].toNat : Int) ≤ 90) ∨ (v = (a[k].toNat : Int) - 32 ∧ 97 ≤ (a[k].toNat : Int) ∧ (a[k].toNat : Int) ≤ 122)) :
    (∃ (k_1 : Nat) (l : List UInt8) (cs_1 : Array Value), k_1 ≤ a.size ∧ Value.int .i64 ((k : Int) + 1) = Value.int .i64 (k_1 : Int) ∧ Upto a k_1 l cs_1 ∧ w.alloc (.cells (cs.setIfInBounds k (.int .u8 v)) 5) = w.alloc (.cells cs_1 5)) ∧
    a.size - (intOf (.int .i64 ((k : Int) + 1))).toNat < a.size - (intOf (.int .i64 (k : Int))).toNat :=
  ⟨⟨k + 1, _, _, by omega, by go_num, upto_snoc hu hlt v h, rfl⟩, by simp [intOf]; omega⟩
theorem conv_row (w : World) (cs : Array Value) (l : List UInt8) (n : Nat) (hn : l.length = n) (hc : ∀ j (h : j < l.length), cs[j]? = some (.int .u8 (l[j].toNat : Int))) :
    (convert 24 9 (.slice (some ⟨w.heap.size, 0, none⟩) n n)).run Yba.prog (w.alloc (.cells cs 5)) = .ok (.string ⟨l.toArray⟩) (w.alloc (.cells cs 5)) := by
  subst hn
  refine run_convert_bytes_back _ 24 9 5 ⟨w.heap.size, 0, none⟩ _ l Yba.underlying24 Yba.underlying5 Yba.underlying9 (fun j hj => ?_)
  have hadd : (⟨w.heap.size, 0, none⟩ : Addr).add j = ⟨w.heap.size, j, none⟩ := by unfold Addr.add; split <;> simp_all
  rw [hadd, cell_of_row _ _ _ _ _ _ (heap_alloc_last w _)]
  exact hc j hj
theorem size_mk (l : List UInt8) : (⟨l.toArray⟩ : ByteArray).size = l.length := by
  show l.toArray.size = l.length
  simp
theorem fold_val (a b : ByteArray) (w : World) (v : Bool) (h : foldB a b = v) (ha : a.size ≤ maxLen) (hb : b.size ≤ maxLen) :
    Calls Yba.prog 5 #[.string a, .string b] w fun e w' => e = .returned (.bool v) ∧ Drawn w w' := by
  subst h
  exact fold_any a b w ha hb
theorem grown_drawn {w w1 w2 : World} (h : Grown w w1) (d : Drawn w1 w2) : Grown w w2 := by
  obtain ⟨n, rfl⟩ := d
  exact h
theorem size_more (l : List UInt8) (u : UInt8) : ((⟨l.toArray⟩ : ByteArray) ++ (⟨#[u]⟩ : ByteArray)).size = l.length + 1 := by
  rw [ByteArray.size_append, size_mk]
  rfl
theorem flip_true {a : ByteArray} {l : List UInt8} {cs : Array Value} (hu : Upto a a.size l cs) : foldB a ⟨l.toArray⟩ = true ∧ foldB ⟨l.toArray⟩ a = true := by
  have hs : (⟨l.toArray⟩ : ByteArray).size = a.size := by rw [size_mk]; exact hu.len
  have hb : ∀ i, i < a.size → lowI (byteAt a i) = lowI (byteAt ⟨l.toArray⟩ i) := fun i hi => by
    have hi' : i < l.length := by rw [hu.len]; exact hi
    rw [← hu.low i hi']
    unfold byteAt
    simp [List.getD_eq_getElem?_getD, List.getElem?_eq_getElem hi']
  exact ⟨foldB_true hs.symm hb, foldB_true hs (fun i hi => (hb i (by omega)).symm)⟩
set_option maxHeartbeats 1000000 in
theorem flipLaw (a : ByteArray) (m : Int) (u : UInt8) (w : World) (ha : a.size ≤ maxLen) (hm0 : 0 ≤ m) (hm1 : m ≤ 18446744073709551615) :
    Calls Yba.prog 4 #[.string a, .int .u64 m, .int .u8 (u.toNat : Int)] w fun e w' => e = .returned (.bool true) ∧ Grown w w' := by
  have ha' := ha
  unfold maxLen at ha'
  by_cases h1 : a.size ≤ 1024
  · have hmk := run_make_row' (P := Yba.prog) 24 5 (.int .u8 0) 1 Yba.underlying24 info5 rfl .i64 .i64 a.size (by omega) (by omega) w
    have hd : decide (1024 < (a.size : Int)) = false := by simp; omega
    go_enter Yba.func4, Yba.ntmps4
    go_wp2_with fail
    clear hmk
    go_loopw [8] (fun i wr => ∃ (k : Nat) (l : List UInt8) (cs : Array Value), k ≤ a.size ∧ i = .int .i64 k ∧ Upto a k l cs ∧ wr = w.alloc (.cells cs 5)) (fun i _ => a.size - (intOf i).toNat)
    case atStart => exact ⟨0, [], _, Nat.zero_le _, rfl, ⟨rfl, size_madeCells _ _, fun j h => by simp at h, fun j h => by simp at h⟩, rfl⟩
    case round =>
      obtain ⟨k, l, cs, hk, rfl, hu, rfl⟩ := hrel
      by_cases hlt : k < a.size
      · have hc : ∃ v0, cs[k]? = some v0 := ⟨cs[k]'(by have := hu.size; omega), by simp⟩
        obtain ⟨v0, hc⟩ := hc
        go_wp2_with fail
        all_goals exact round_goal hu hlt _ (by omega)
      · obtain rfl : k = a.size := by omega
        have hcv := conv_row w cs l a.size hu.len hu.cell
        obtain ⟨ft1, ft2⟩ := flip_true hu
        have FT1 : Hid _ := ft1
        have FT2 : Hid _ := ft2
        have hs : (⟨l.toArray⟩ : ByteArray).size = a.size := by rw [size_mk]; exact hu.len
        have HS : Hid _ := hs
        have hll : l.length ≤ 1024 := by rw [hu.len]; exact h1
        have HL : Hid (l.length = a.size) := hu.len
        clear ft1 ft2 hs hu
        have hcv2 : ∀ W : World, (convert 24 9 (.slice (some ⟨W.heap.size, 0, none⟩) 1 1)).run Yba.prog (W.alloc (.cells #[.int .u8 (u.toNat : Int)] 5)) = .ok (.string ⟨#[u]⟩) (W.alloc (.cells #[.int .u8 (u.toNat : Int)] 5)) := fun W =>
          conv_row W _ [u] 1 rfl (fun j hj => by obtain rfl : j = 0 := by (simp at hj; omega)
                                                 rfl)
        go_wp2_with fail
        refine (fold_val _ _ _ true FT1.out ha (by rw [HS.out]; exact ha)).mono ?_
        rintro e w1 ⟨rfl, d1⟩
        go_wp2_with fail
        refine (fold_val _ _ _ true FT2.out (by rw [HS.out]; exact ha) ha).mono ?_
        rintro e w2 ⟨rfl, d2⟩
        go_wp2_with fail
        refine (fold_val _ _ _ false (foldB_size (by rw [size_more, HL.out]; omega)) ha (by rw [size_more]; unfold maxLen; omega)).mono ?_
        rintro e w3 ⟨rfl, d3⟩
        go_wp2_with fail
        refine (fold_val _ _ _ false (foldB_size (by rw [size_more, HL.out]; omega)) (by rw [size_more]; unfold maxLen; omega) ha).mono ?_
        rintro e w4 ⟨rfl, d4⟩
        go_wp2
        go_ret
        exact ⟨rfl, grown_drawn (grown_drawn (Grown.alloc (grown_drawn (grown_drawn (Grown.alloc (Grown.refl w) _ _) d1) d2) _ _) d3) d4⟩
  · go_enter Yba.func4, Yba.ntmps4
    go_wp2
    go_ret
    exact ⟨rfl, Grown.refl w⟩
end Go.Proofs.Ybulkipy
