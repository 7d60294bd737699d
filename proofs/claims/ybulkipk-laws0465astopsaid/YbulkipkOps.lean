/-
  The slice of steps that comes in, opened; the builder's contract over it.
-/
import Derived.Test.YbulkipkRows
import Derived.WalkKit
import Derived.ProofKit
import Derived.OpenShut
import Derived.ChangeOld
import Derived.Below
import Derived.Deep.Slices
import Derived.Deep.Strs
import Derived.Test.YbulkipkGot
namespace Go.Proofs.Ybulkipk
open Go.ChangeShapes Go.WideShapes Go.ChangeAt Go.RowKit Go.Deep
/-- What the walks are told of the slice of steps: three bytes an element. -/
def IsOps (w : World) (a : Option Addr) (len : Nat) : Prop :=
  ∃ (K T X : Nat → Nat), ∀ i, i < len → ∃ x : Addr, a = some x ∧ w.cell? (x.add (i * 3)) = some (.int .u8 (K i : Int)) ∧ w.cell? ((x.add (i * 3)).add 1) = some (.int .u8 (T i : Int)) ∧ w.cell? ((x.add (i * 3)).add 2) = some (.int .u8 (X i : Int))
theorem cells61 : Yba.prog.cellsOf 61 = 3 := by kernel_rfl
theorem cells5 : Yba.prog.cellsOf 5 = 1 := by kernel_rfl
theorem isOps {H : Type} {enc : TypeId × Value → H} {W : World} {base : Nat} {spare : Nat → Bool} {held : Bool} {fuel : Nat} {a : Option Addr} {len cap : Nat} {x : DataW H × List MemPlace}
    (h : DataW.trod enc Yba.prog W base spare held fuel 22 [.slice a len cap] = some x) : IsOps W a len := by
  rcases open_slice Yba.underlying22 h with ⟨hcs, _⟩ | ⟨y, l, c, m, n, D, Pl, hcs, _, hl, _, hm, _, hall⟩
  · simp at hcs
    obtain ⟨rfl, rfl, rfl⟩ := hcs
    exact ⟨fun _ => 0, fun _ => 0, fun _ => 0, fun i hi => by omega⟩
  · simp at hcs
    obtain ⟨rfl, rfl, rfl⟩ := hcs
    have hlm : len ≤ m := by rw [hm]; split <;> omega
    have each : ∀ i, i < len → ∃ q : Nat × Nat × Nat, W.cell? (y.add (i * 3)) = some (.int .u8 (q.1 : Int)) ∧ W.cell? ((y.add (i * 3)).add 1) = some (.int .u8 (q.2.1 : Int)) ∧ W.cell? ((y.add (i * 3)).add 2) = some (.int .u8 (q.2.2 : Int)) := by
      intro i hi
      obtain ⟨cs', hc, ht⟩ := hall i (by omega)
      rw [cells61] at hc
      obtain ⟨y0, y1, y2, n', _, hcl, t0, t1, t2⟩ := trod_struct3 Yba.underlying61 ht
      simp only [cells5] at t0 t1 t2
      obtain ⟨n0, e0, _, w0⟩ := DataW.trod_int Yba.underlying5 t0
      obtain ⟨n1, e1, _, w1⟩ := DataW.trod_int Yba.underlying5 t1
      obtain ⟨n2, e2, _, w2⟩ := DataW.trod_int Yba.underlying5 t2
      rw [cells61] at hcl
      match cs', hcl with
      | [c0, c1, c2], _ =>
        simp at e0 e1 e2
        subst e0 e1 e2
        obtain ⟨p0, _⟩ := bounds_u8 w0
        obtain ⟨p1, _⟩ := bounds_u8 w1
        obtain ⟨p2, _⟩ := bounds_u8 w2
        have hget := World.cells?_some hc
        refine ⟨(n0.toNat, n1.toNat, n2.toNat), ?_, ?_, ?_⟩
        · simpa [Int.toNat_of_nonneg p0, Addr.add] using hget.2.2 0 (by omega)
        · simpa [Int.toNat_of_nonneg p1] using hget.2.2 1 (by omega)
        · simpa [Int.toNat_of_nonneg p2] using hget.2.2 2 (by omega)
    obtain ⟨q, hq⟩ := choose_lt each
    exact ⟨fun i => (q i).1, fun i => (q i).2.1, fun i => (q i).2.2, fun i hi => ⟨y, rfl, hq i hi⟩⟩
theorem mid (b off i : Nat) : (⟨b, off, none⟩ : Addr).add i = ⟨b, off + i, none⟩ := by
  unfold Addr.add
  by_cases hi : i = 0 <;> simp [hi]
theorem built (w : World) (a : Option Addr) (len cap : Nat) (h : IsOps w a len) (hlen : len ≤ 300) : Calls Yba.prog 8 #[.slice a len cap] w (Built w len) := by
  obtain ⟨K, T, X, h⟩ := h
  by_cases h0 : len = 0
  · exact build_nil w a len cap K X T hlen h0
  · obtain ⟨x, rfl, hc, _⟩ := h 0 (by omega)
    obtain ⟨b, off, spot⟩ := x
    have hspot : spot = none := by simpa [Addr.add] using World.cell?_spot hc
    subst hspot
    refine build_any w b off len cap K X T hlen (block_lt_of_cell hc) (fun i hi => ?_)
    obtain ⟨y, hy, h1, h2, h3⟩ := h i hi
    obtain rfl : (⟨b, off, none⟩ : Addr) = y := by simpa using hy
    rw [mid] at h1 h2 h3
    rw [mid] at h2 h3
    exact ⟨h1, h2, h3⟩
end Go.Proofs.Ybulkipk
