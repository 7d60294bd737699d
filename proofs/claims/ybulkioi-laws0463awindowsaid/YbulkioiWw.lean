/-
  The contract of '(*Scheme).WithWindow' (function 5): a copy of the receiver's 19 cells in a new block, the window's cell set.
-/
import Derived.Test.YbulkioiRows
import Derived.WalkKit
import Derived.ProofKit
import Derived.Deep.WholeRow
import Derived.LaidEqlPtr
namespace Go.Proofs.Ybulkioi
open Go.ChangeShapes Go.WideShapes Go.ChangeAt Go.RowKit
theorem info41 : (Yba.prog.info? 41).map (fun i => i.size) = some 19 := by kernel_rfl

/-- A whole struct stored into the block that was made last. -/
theorem wpList_store_new {P : Program} {ops : Array Oper} {rest : List Oper} {o : Oper} {a : Act} {w : World} {Q : Exit → Act → World → Prop} (hgd : o.guard = none) (ty : TypeId) (x y : Operand) (ho : o.op = .store ty x y)
    (cells : Array Value) (hx : a.eval x = .pointer (some ⟨w.heap.size, 0, none⟩)) (hy : a.eval y = .agg cells)
    (t : TypeId) (old : Array Value) (hi : (P.info? ty).map (·.size) = some cells.size)
    (hold : old.size = cells.size) (h1 : cells.all (·.oneCell') = true)
    (h : wpList P ops Q rest (a.put o.dst undef) (w.alloc (.cells cells t))) : wpList P ops Q (o :: rest) a (w.alloc (.cells old t)) :=
  wpList_store_row hgd ty x y ho w.heap.size cells hx hy t old (heap_alloc_last w _) hi hold h1 (by rw [World.setRow_alloc_new]; exact h)

set_option maxHeartbeats 400000 in
theorem ww (g : Nat) (c0 c1 c2 c3 c4 c5 c6 c7 c8 c9 c10 c11 c12 c13 c14 c15 c16 c17 c18 : Value) (t : TypeId) (fr : Nat × Nat) (w : World) (d : Int)
    (h1 : (#[c0, c1, c2, c3, c4, c5, c6, c7, c8, c9, c10, c11, c12, c13, c14, c15, c16, c17, c18] : Array Value).all (·.oneCell') = true)
    (hg : w.heap[g]? = some (.cells #[c0, c1, c2, c3, c4, c5, c6, c7, c8, c9, c10, c11, c12, c13, c14, c15, c16, c17, c18] t fr)) :
    Calls Yba.prog 5 #[.pointer (some ⟨g, 0, none⟩), .int .i64 d] w fun e w' => e = .returned (.pointer (some ⟨w.heap.size, 0, none⟩)) ∧
      w' = w.alloc (.cells #[c0, c1, c2, c3, c4, c5, c6, c7, c8, c9, c10, c11, c12, c13, c14, c15, c16, .int .i64 d, c18] 41) := by
  have H1 : Hid _ := h1
  clear h1
  go_enter Yba.func5, Yba.ntmps5
  go_wp2_with (first | refine wpList_load_row rfl 41 _ rfl g rfl t _ fr _ hg Yba.underlying41 rfl info41 ?_ | refine wpList_store_new rfl 41 _ _ rfl #[c0, c1, c2, c3, c4, c5, c6, c7, c8, c9, c10, c11, c12, c13, c14, c15, c16, c17, c18] rfl rfl _ _ info41 rfl H1.out ?_)
  go_ret
  exact ⟨rfl, rfl⟩
/-- Pointers into two blocks are unequal. -/
theorem run_neq_ptr_other {P : Program} (w : World) {tp te : TypeId} {j : TypeInfo} {a b : Addr} {ca cb : Array Value} {ta tb : TypeId} (hp : P.underlying tp = some (.pointer te)) (hte : P.info? te = some j) (hsz : j.size ≠ 0)
    (hne : a ≠ b) (ha : w.heap[a.block]? = some (.cells ca ta (0, 0))) (hb : w.heap[b.block]? = some (.cells cb tb (0, 0))) :
    (binOp .neq tp (.pointer (some a)) (.pointer (some b))).run P w = .ok (.bool true) w := by
  have h : ∀ d : Nat, (Op.equalIn (d + 1) tp (.pointer (some a)) (.pointer (some b))).run P w = .ok false w := fun d => by
    simp [Op.equalIn, run_underlying hp, sizeOf, typeInfo, hte, hsz, run_sameAddr_other w hne ha hb]
  simp only [binOp]
  simp [Op.equal, Op.maxDepth, h 9999]
theorem info41' : ∃ j, Yba.prog.info? 41 = some j ∧ j.size ≠ 0 := by
  have h := info41
  cases hq : Yba.prog.info? 41 with
  | none => simp [hq] at h
  | some i => simp [hq] at h; exact ⟨i, rfl, by omega⟩

end Go.Proofs.Ybulkioi
