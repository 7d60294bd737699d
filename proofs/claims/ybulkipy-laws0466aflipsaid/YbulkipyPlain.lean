/-
  Plain laws on bytes and strings: no Go here.
-/
import Derived.WalkKit
namespace Go.Proofs.Ybulkipy
/-- the letters A-Z taken as a-z -/
def lowI (c : Int) : Int := if 65 ≤ c ∧ c ≤ 90 then c + 32 else c
/-- the model's word on two bytes -/
def eqI (x y : Int) : Bool := x == y || (decide (65 ≤ x ∧ x ≤ 90) && y == x + 32) || (decide (65 ≤ y ∧ y ≤ 90) && x == y + 32)
theorem eqI_low (x y : Int) : eqI x y = (lowI x == lowI y) := by
  unfold eqI lowI
  rw [Bool.eq_iff_iff]
  by_cases hx : 65 ≤ x ∧ x ≤ 90 <;> by_cases hy : 65 ≤ y ∧ y ≤ 90 <;> simp [hx, hy] <;> omega
def byteAt (s : ByteArray) (i : Nat) : Int := ((s.data.toList.getD i 0).toNat : Int)
theorem byteAt_eq (s : ByteArray) (i : Nat) (h : i < s.size) : byteAt s i = (s[i].toNat : Int) := by
  unfold byteAt
  have h' : i < s.data.toList.length := by simpa using h
  rw [List.getD_eq_getElem?_getD, List.getElem?_eq_getElem h']
  rfl
def foldB (a b : ByteArray) : Bool := a.size == b.size && (List.range a.size).all fun i => lowI (byteAt a i) == lowI (byteAt b i)
def modelB (a b : ByteArray) : Bool := a.size == b.size && (List.range a.size).all fun i => eqI (byteAt a i) (byteAt b i)
theorem model_eq_fold (a b : ByteArray) : modelB a b = foldB a b := by
  unfold modelB foldB
  congr 2
  funext i
  exact eqI_low _ _
theorem foldB_size {a b : ByteArray} (h : a.size ≠ b.size) : foldB a b = false := by
  simp [foldB, h]
theorem foldB_true {a b : ByteArray} (h : a.size = b.size) (h2 : ∀ i, i < a.size → lowI (byteAt a i) = lowI (byteAt b i)) : foldB a b = true := by
  simp [foldB, h]
  intro i hi
  exact h2 i (by omega)
theorem foldB_false {a b : ByteArray} (i : Nat) (hi : i < a.size) (h2 : ¬ lowI (byteAt a i) = lowI (byteAt b i)) : foldB a b = false := by
  rw [Bool.eq_false_iff]
  intro h
  simp only [foldB, Bool.and_eq_true, List.all_eq_true, List.mem_range, beq_iff_eq] at h
  exact h2 (h.2 i hi)
theorem modelB_size {a b : ByteArray} (h : a.size ≠ b.size) : modelB a b = false := by
  simp [modelB, h]
theorem modelB_true {a b : ByteArray} (h : a.size = b.size) (h2 : ∀ i, i < a.size → eqI (byteAt a i) (byteAt b i) = true) : modelB a b = true := by
  simp [modelB, h]
  intro i hi
  exact h2 i (by omega)
theorem modelB_false {a b : ByteArray} (i : Nat) (hi : i < a.size) (h2 : eqI (byteAt a i) (byteAt b i) = false) : modelB a b = false := by
  rw [Bool.eq_false_iff]
  intro h
  simp only [modelB, Bool.and_eq_true, List.all_eq_true, List.mem_range] at h
  rw [h.2 i hi] at h2
  exact Bool.noConfusion h2
end Go.Proofs.Ybulkipy
