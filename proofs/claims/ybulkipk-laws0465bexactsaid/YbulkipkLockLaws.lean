/-
  Plain laws on the numbers of 'atLockPointOf': no walk here.
-/
import Derived.Test.YbulkipkLock
import Derived.Laws.Bits64
import Derived.Laws.BitsAllLaws
namespace Go.Proofs.Ybulkipk
open Go.RowKit Go.ChangeShapes Go.WideShapes Go.ChangeAt
theorem gap_eq (p : Int) : gapOf p = wrap32 (wrap32 p + 1) := by
  unfold gapOf wrap32 wrap64
  omega
theorem ordF_nat (r : Int) : ∃ m : Nat, m < 18446744073709551616 ∧ IntKind.u64.wrap r = (m : Int) ∧ ordF r = ((4294967296 ||| (m * 2) % 18446744073709551616 : Nat) : Int) := by
  refine ⟨(r % 18446744073709551616).toNat, by omega, by rw [IntKind.wrap_u64]; omega, ?_⟩
  unfold ordF
  rw [IntKind.wrap_u64, IntKind.wrap_u64, u64_or _ _ (by omega) (by omega) (by omega) (by omega)]
  congr 2
  omega
theorem or_lt (a b : Nat) (ha : a < 18446744073709551616) (hb : b < 18446744073709551616) : a ||| b < 18446744073709551616 :=
  Nat.or_lt_two_pow (n := 64) ha hb
theorem ordT_nat (r : Int) : ∃ m : Nat, m < 18446744073709551616 ∧ IntKind.u64.wrap r = (m : Int) ∧ ordT r = (((4294967296 ||| (m * 2) % 18446744073709551616) ||| 1 : Nat) : Int) := by
  obtain ⟨m, hm, hr, ho⟩ := ordF_nat r
  refine ⟨m, hm, hr, ?_⟩
  have hl := or_lt 4294967296 ((m * 2) % 18446744073709551616) (by omega) (by omega)
  unfold ordT
  rw [ho, u64_or _ _ (by omega) (by omega) (by omega) (by omega)]
  rfl
theorem even_of (m : Nat) : (4294967296 ||| (m * 2) % 18446744073709551616) % 2 = 0 := by
  have h : ¬ (4294967296 ||| (m * 2) % 18446744073709551616) % 2 = 1 := by
    rw [Nat.or_mod_two_eq_one]; omega
  omega
theorem lowF (r : Int) : bits .and .u64 (ordF r) 1 = 0 := by
  obtain ⟨m, hm, hr, ho⟩ := ordF_nat r
  have hl := or_lt 4294967296 ((m * 2) % 18446744073709551616) (by omega) (by omega)
  have he := even_of m
  rw [ho]
  generalize (4294967296 ||| (m * 2) % 18446744073709551616) = x at *
  rw [u64_and _ _ (by omega) (by omega) (by omega) (by omega)]
  show ((x &&& 1 : Nat) : Int) = 0
  rw [nat_mask1]
  omega
theorem lowT (r : Int) : bits .and .u64 (ordT r) 1 = 1 := by
  obtain ⟨m, hm, hr, ho⟩ := ordT_nat r
  have hl := or_lt _ _ (or_lt 4294967296 ((m * 2) % 18446744073709551616) (by omega) (by omega)) (show (1 : Nat) < 18446744073709551616 by omega)
  have he : ((4294967296 ||| (m * 2) % 18446744073709551616) ||| 1) % 2 = 1 := by rw [Nat.or_mod_two_eq_one]; omega
  rw [ho]
  generalize ((4294967296 ||| (m * 2) % 18446744073709551616) ||| 1) = x at *
  rw [u64_and _ _ (by omega) (by omega) (by omega) (by omega)]
  show ((x &&& 1 : Nat) : Int) = 1
  rw [nat_mask1]
  omega
theorem want_nat (r : Int) (m : Nat) (hm : m < 18446744073709551616) (hr : IntKind.u64.wrap r = (m : Int)) :
    bits .or .u64 (bits .andNot .u64 (IntKind.u64.wrap r) 9223372036854775808) 2147483648 = ((m % 9223372036854775808 ||| 2147483648 : Nat) : Int) := by
  have h1 : m &&& (18446744073709551615 - 9223372036854775808) = m % 9223372036854775808 := Nat.and_two_pow_sub_one_eq_mod m 63
  rw [hr, u64_andNot _ _ (by omega) (by omega) (by omega) (by omega)]
  have h2 : (m : Int).toNat &&& (18446744073709551615 - (9223372036854775808 : Int).toNat) = m % 9223372036854775808 := h1
  rw [h2, u64_or _ _ (by omega) (by omega) (by omega) (by omega)]
  rfl
theorem half (m : Nat) : (4294967296 ||| (m * 2) % 18446744073709551616) / 2 = (m % 9223372036854775808 ||| 2147483648) := by
  rw [Nat.or_div_two, Nat.or_comm]
  congr 1
  omega
theorem highF (r : Int) : ordF r / 2 = bits .or .u64 (bits .andNot .u64 (IntKind.u64.wrap r) 9223372036854775808) 2147483648 := by
  obtain ⟨m, hm, hr, ho⟩ := ordF_nat r
  rw [want_nat r m hm hr, ho, ← half m]
  rfl
theorem highT (r : Int) : ordT r / 2 = bits .or .u64 (bits .andNot .u64 (IntKind.u64.wrap r) 9223372036854775808) 2147483648 := by
  obtain ⟨m, hm, hr, ho⟩ := ordT_nat r
  rw [want_nat r m hm hr, ho, ← half m]
  show ((((4294967296 ||| (m * 2) % 18446744073709551616) ||| 1) / 2 : Nat) : Int) = _
  rw [Nat.or_div_two]
  simp
/-- small ranks: no carry -/
theorem ordF_small (r : Int) (h0 : 0 ≤ r) (h1 : r < 2147483648) : ordF r = 4294967296 + 2 * r := by
  obtain ⟨m, hm, hr, ho⟩ := ordF_nat r
  rw [IntKind.wrap_u64] at hr
  have e : (m * 2) % 18446744073709551616 = m * 2 := by omega
  rw [ho, e, nat_join 32 4294967296 (m * 2) (by decide) (by omega)]
  omega
theorem ordT_small (r : Int) (h0 : 0 ≤ r) (h1 : r < 2147483648) : ordT r = 4294967296 + 2 * r + 1 := by
  unfold ordT
  rw [ordF_small r h0 h1, u64_or _ _ (by omega) (by omega) (by omega) (by omega)]
  have := nat_join 1 (4294967296 + 2 * r).toNat 1 (by omega) (by omega)
  rw [show (1 : Int).toNat = 1 from rfl, this]
  omega
end Go.Proofs.Ybulkipk
