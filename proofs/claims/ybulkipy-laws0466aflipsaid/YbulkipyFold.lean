/-
  The contracts of 'EqualFoldASCII' (5) and 'zzs0466amodel' (6).
-/
import Derived.Test.YbulkipyBytes
import Derived.Deep.QuietTactic
import Derived.BigQuiet
namespace Go.Proofs.Ybulkipy
open Go.ChangeShapes Go.WideShapes Go.ChangeAt Go.RowKit
set_option linter.unusedVariables false
/-- 'w' after some draws. -/
def Drawn (w w' : World) : Prop := ∃ n, w' = w.drewN n
theorem Drawn.refl (w : World) : Drawn w w := ⟨0, rfl⟩
theorem Drawn.more {w w' : World} (h : Drawn w w') (n : Nat) : Drawn w (w'.drewN n) := by
  obtain ⟨m, rfl⟩ := h
  exact ⟨m + n, World.drewN_drewN _ _ _⟩
theorem Drawn.grown {w w' w'' : World} (h : Drawn w w') (h2 : Drawn w' w'') : Grown w w'' := by
  obtain ⟨n, rfl⟩ := h
  obtain ⟨m, rfl⟩ := h2
  exact Grown.refl w
set_option maxHeartbeats 400000 in
theorem fold_any (a b : ByteArray) (w : World) (ha : a.size ≤ maxLen) (hb : b.size ≤ maxLen) :
    Calls Yba.prog 5 #[.string a, .string b] w fun e w' => e = .returned (.bool (foldB a b)) ∧ Drawn w w' := by
  unfold maxLen at ha hb
  by_cases hs : a.size = b.size
  · have HS : Hid _ := hs
    have h1 : ((a.size : Int) != (b.size : Int)) = false := by simp [hs]
    clear hs
    go_enter Yba.func5, Yba.ntmps5
    go_wp2
    go_loopw [5] (fun i wr => ∃ k : Nat, k ≤ a.size ∧ i = .int .i64 k ∧ (∀ j, j < k → lowI (byteAt a j) = lowI (byteAt b j)) ∧ Drawn w wr) (fun i _ => a.size - (intOf i).toNat)
    case atStart => exact ⟨0, Nat.zero_le _, rfl, fun j hj => by omega, Drawn.refl w⟩
    case round =>
      obtain ⟨k, hk, rfl, hp, hd⟩ := hrel
      have HP : Hid _ := hp
      clear hp
      by_cases hlt : k < a.size
      · have hlt2 : k < b.size := by have := HS.out; omega
        by_cases he : lowI (byteAt a k) = lowI (byteAt b k)
        · have HE : Hid _ := he
          have he2 : (lowI (a[k].toNat : Int) != lowI (b[k].toNat : Int)) = false := by
            rw [byteAt_eq a k hlt, byteAt_eq b k hlt2] at he
            rw [he]; simp
          clear he
          go_wp2_with fail
          go_quiet ((go_at_call 7; exact Calls.quiet_of_same (low_byte _ _)))
          go_wp2
          go_roundw
          case rel => exact ⟨k + 1, by omega, by go_num, fun j hj => by
            by_cases e : j = k
            · subst e; exact HE.out
            · exact HP.out j (by omega), hd.more _⟩
          case measure => simp [intOf]; omega
        · have he2 : (lowI (a[k].toNat : Int) != lowI (b[k].toNat : Int)) = true := by
            rw [byteAt_eq a k hlt, byteAt_eq b k hlt2] at he
            simpa using he
          have hf : Hid (foldB a b = false) := foldB_false k hlt he
          clear he
          go_wp2_with fail
          go_quiet ((go_at_call 7; exact Calls.quiet_of_same (low_byte _ _)))
          go_wp2
          go_ret
          exact ⟨by rw [hf.out]; rfl, hd.more _⟩
      · have hf : Hid (foldB a b = true) := foldB_true HS.out (fun i hi => HP.out i (by omega))
        go_wp2
        go_ret
        exact ⟨by rw [hf.out]; rfl, hd⟩
  · have h1 : ((a.size : Int) != (b.size : Int)) = true := by simp; omega
    rw [foldB_size hs]
    go_enter Yba.func5, Yba.ntmps5
    go_wp2
    go_ret
    exact ⟨rfl, Drawn.refl w⟩
set_option maxHeartbeats 400000 in
theorem model_any (a b : ByteArray) (w : World) (ha : a.size ≤ maxLen) (hb : b.size ≤ maxLen) :
    Calls Yba.prog 6 #[.string a, .string b] w fun e w' => e = .returned (.bool (modelB a b)) ∧ Drawn w w' := by
  unfold maxLen at ha hb
  by_cases hs : a.size = b.size
  · have HS : Hid _ := hs
    have h1 : ((a.size : Int) != (b.size : Int)) = false := by simp [hs]
    clear hs
    go_enter Yba.func6, Yba.ntmps6
    go_wp2
    go_loopw [5] (fun i wr => ∃ k : Nat, k ≤ a.size ∧ i = .int .i64 k ∧ (∀ j, j < k → eqI (byteAt a j) (byteAt b j) = true) ∧ Drawn w wr) (fun i _ => a.size - (intOf i).toNat)
    case atStart => exact ⟨0, Nat.zero_le _, rfl, fun j hj => by omega, Drawn.refl w⟩
    case round =>
      obtain ⟨k, hk, rfl, hp, hd⟩ := hrel
      have HP : Hid _ := hp
      clear hp
      by_cases hlt : k < a.size
      · have hlt2 : k < b.size := by have := HS.out; omega
        cases he : eqI (byteAt a k) (byteAt b k) with
        | true =>
          have HE : Hid _ := he
          have he2 : eqI (a[k].toNat : Int) (b[k].toNat : Int) = true := by
            rw [byteAt_eq a k hlt, byteAt_eq b k hlt2] at he
            exact he
          clear he
          go_wp2_with fail
          go_quiet ((go_at_call 8; exact Calls.quiet_of_same (eq_byte _ _ _)))
          go_wp2
          go_roundw
          case rel => exact ⟨k + 1, by omega, by go_num, fun j hj => by
            by_cases e : j = k
            · subst e; exact HE.out
            · exact HP.out j (by omega), hd.more _⟩
          case measure => simp [intOf]; omega
        | false =>
          have he2 : eqI (a[k].toNat : Int) (b[k].toNat : Int) = false := by
            rw [byteAt_eq a k hlt, byteAt_eq b k hlt2] at he
            exact he
          have hf : Hid (modelB a b = false) := modelB_false k hlt he
          clear he
          go_wp2_with fail
          go_quiet ((go_at_call 8; exact Calls.quiet_of_same (eq_byte _ _ _)))
          go_wp2
          go_ret
          exact ⟨by rw [hf.out]; rfl, hd.more _⟩
      · have hf : Hid (modelB a b = true) := modelB_true HS.out (fun i hi => HP.out i (by omega))
        go_wp2
        go_ret
        exact ⟨by rw [hf.out]; rfl, hd⟩
  · have h1 : ((a.size : Int) != (b.size : Int)) = true := by simp; omega
    rw [modelB_size hs]
    go_enter Yba.func6, Yba.ntmps6
    go_wp2
    go_ret
    exact ⟨rfl, Drawn.refl w⟩
end Go.Proofs.Ybulkipy
