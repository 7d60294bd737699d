/-
  The contracts of 'lowerByte' (7) and 'zzs0466aeq' (8).
-/
import Derived.Test.YbulkipyRows
import Derived.Test.YbulkipyPlain
import Derived.ProofKit
import Derived.WalkLawsBesides
namespace Go.Proofs.Ybulkipy
open Go.ChangeShapes Go.WideShapes Go.ChangeAt Go.RowKit
theorem low_any (c : Int) (w : World) (h0 : 0 ≤ c) (h1 : c ≤ 255) :
    Calls Yba.prog 7 #[.int .u8 c] w fun e w' => e = .returned (.int .u8 (lowI c)) ∧ w' = w := by
  unfold lowI
  by_cases h : 65 ≤ c
  · by_cases h' : c ≤ 90
    · rw [if_pos ⟨h, h'⟩]
      go_enter Yba.func7, Yba.ntmps7
      go_wp2
      go_ret
      exact ⟨congrArg (fun x => Ending.returned (.int .u8 x)) (by omega), rfl⟩
    · rw [if_neg (by omega)]
      go_enter Yba.func7, Yba.ntmps7
      go_wp2
      go_ret
      exact ⟨rfl, rfl⟩
  · rw [if_neg (by omega)]
    go_enter Yba.func7, Yba.ntmps7
    go_wp2
    go_ret
    exact ⟨rfl, rfl⟩
theorem low_byte (c : UInt8) (w : World) : Calls Yba.prog 7 #[.int .u8 (c.toNat : Int)] w fun e w' => e = .returned (.int .u8 (lowI (c.toNat : Int))) ∧ w' = w :=
  low_any _ w (by omega) (by have := c.toNat_lt; omega)
set_option maxHeartbeats 400000 in
theorem eq_any (x y : Int) (w : World) (h0 : 0 ≤ x) (h1 : x ≤ 255) (k0 : 0 ≤ y) (k1 : y ≤ 255) :
    Calls Yba.prog 8 #[.int .u8 x, .int .u8 y] w fun e w' => e = .returned (.bool (eqI x y)) ∧ w' = w := by
  by_cases hxy : x = y
  · subst hxy
    have : eqI x x = true := by simp [eqI]
    rw [this]
    clear this
    go_enter Yba.func8, Yba.ntmps8
    go_wp2
    go_ret
    exact ⟨rfl, rfl⟩
  · have e0 : (x == y) = false := beq_eq_false_iff_ne.2 hxy
    by_cases hx : 65 ≤ x ∧ x ≤ 90 ∧ y = x + 32
    · have : eqI x y = true := by obtain ⟨a, b, c⟩ := hx; subst c; simp [eqI, a, b]
      rw [this]
      clear this
      obtain ⟨a, b, c⟩ := hx
      have e1 : (y == x + 32) = true := beq_iff_eq.2 c
      clear c
      go_enter Yba.func8, Yba.ntmps8
      go_wp2
      go_ret
      exact ⟨rfl, rfl⟩
    · by_cases hy : 65 ≤ y ∧ y ≤ 90 ∧ x = y + 32
      · have : eqI x y = true := by obtain ⟨a, b, c⟩ := hy; subst c; simp [eqI, a, b]
        rw [this]
        clear this hx
        obtain ⟨a, b, c⟩ := hy
        have e1 : (x == y + 32) = true := beq_iff_eq.2 c
        have e2 : ¬ x ≤ 90 := by omega
        clear c
        go_enter Yba.func8, Yba.ntmps8
        go_wp2
        go_ret
        exact ⟨rfl, rfl⟩
      · have hfin : eqI x y = false := by simp [eqI, hxy]; omega
        rw [hfin]
        clear hfin
        by_cases a : 65 ≤ x ∧ x ≤ 90
        · obtain ⟨a, a'⟩ := a
          have e1 : (y == x + 32) = false := beq_eq_false_iff_ne.2 (by omega)
          by_cases b : 65 ≤ y ∧ y ≤ 90
          · obtain ⟨b, b'⟩ := b
            have e2 : (x == y + 32) = false := beq_eq_false_iff_ne.2 (by omega)
            clear hx hy
            go_enter Yba.func8, Yba.ntmps8
            go_wp2
            go_ret
            exact ⟨rfl, rfl⟩
          · clear hx hy
            by_cases b0 : 65 ≤ y
            · have b1 : ¬ y ≤ 90 := by omega
              clear b
              go_enter Yba.func8, Yba.ntmps8
              go_wp2
              go_ret
              exact ⟨rfl, rfl⟩
            · clear b
              go_enter Yba.func8, Yba.ntmps8
              go_wp2
              go_ret
              exact ⟨rfl, rfl⟩
        · by_cases a0 : 65 ≤ x
          · have a1 : ¬ x ≤ 90 := by omega
            by_cases b : 65 ≤ y ∧ y ≤ 90
            · obtain ⟨b, b'⟩ := b
              have e2 : (x == y + 32) = false := beq_eq_false_iff_ne.2 (by omega)
              clear hx hy a
              go_enter Yba.func8, Yba.ntmps8
              go_wp2
              go_ret
              exact ⟨rfl, rfl⟩
            · clear hx hy a
              by_cases b0 : 65 ≤ y
              · have b1 : ¬ y ≤ 90 := by omega
                clear b
                go_enter Yba.func8, Yba.ntmps8
                go_wp2
                go_ret
                exact ⟨rfl, rfl⟩
              · clear b
                go_enter Yba.func8, Yba.ntmps8
                go_wp2
                go_ret
                exact ⟨rfl, rfl⟩
          · by_cases b : 65 ≤ y ∧ y ≤ 90
            · obtain ⟨b, b'⟩ := b
              have e2 : (x == y + 32) = false := beq_eq_false_iff_ne.2 (by omega)
              clear hx hy a
              go_enter Yba.func8, Yba.ntmps8
              go_wp2
              go_ret
              exact ⟨rfl, rfl⟩
            · clear hx hy a
              by_cases b0 : 65 ≤ y
              · have b1 : ¬ y ≤ 90 := by omega
                clear b
                go_enter Yba.func8, Yba.ntmps8
                go_wp2
                go_ret
                exact ⟨rfl, rfl⟩
              · clear b
                go_enter Yba.func8, Yba.ntmps8
                go_wp2
                go_ret
                exact ⟨rfl, rfl⟩
theorem eq_byte (c d : UInt8) (w : World) : Calls Yba.prog 8 #[.int .u8 (c.toNat : Int), .int .u8 (d.toNat : Int)] w fun e w' => e = .returned (.bool (eqI (c.toNat : Int) (d.toNat : Int))) ∧ w' = w :=
  eq_any _ _ w (by omega) (by have := c.toNat_lt; omega) (by omega) (by have := d.toNat_lt; omega)
end Go.Proofs.Ybulkipy
