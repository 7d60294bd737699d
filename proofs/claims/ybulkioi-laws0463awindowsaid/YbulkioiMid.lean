/-
  A struct stored into the middle of the block that was made last: the block's cells, spliced.
-/
import Derived.Deep.WholeRow
import Derived.Deep.MidRow
import Derived.Laws.CopyRow
namespace Go.Proofs.Ybulkioi
/-- 'vs' laid over the cells 'cs' from offset o on. -/
def splice (cs : Array Value) (o : Nat) (vs : List Value) : Array Value := (cs.toList.take o ++ vs ++ cs.toList.drop (o + vs.length)).toArray

theorem size_splice (cs : Array Value) (o : Nat) (vs : List Value) (h : o + vs.length ≤ cs.size) : (splice cs o vs).size = cs.size := by
  simp [splice]; omega
theorem splice_in (cs : Array Value) (o : Nat) (vs : List Value) (j : Nat) (h : o + vs.length ≤ cs.size) (hj : j < vs.length) : (splice cs o vs)[o + j]? = vs[j]? := by
  have h1 : o ≤ cs.size := by omega
  simp only [splice, List.getElem?_toArray]
  rw [List.getElem?_append_left (by simp; omega), List.getElem?_append_right (by simp; omega)]
  congr 1
  simp
  omega
theorem splice_before (cs : Array Value) (o : Nat) (vs : List Value) (j : Nat) (h : o + vs.length ≤ cs.size) (hj : j < o) : (splice cs o vs)[j]? = cs[j]? := by
  simp only [splice, List.getElem?_toArray]
  rw [List.getElem?_append_left (by simp; omega), List.getElem?_append_left (by simp; omega), List.getElem?_take, if_pos hj, Array.getElem?_toList]

theorem run_storeVar_mid_new {P : Program} (w : World) (o : Nat) (t ty : TypeId) (cs cells : Array Value) (hfit : o + cells.size ≤ cs.size) (hi : (P.info? ty).map (·.size) = some cells.size) (h1 : cells.all (·.oneCell') = true) :
    (storeVar ty ⟨w.heap.size, o, none⟩ (.agg cells)).run P (w.alloc (.cells cs t)) = .ok () (w.alloc (.cells (splice cs o cells.toList) t)) := by
  have := run_storeCells_at P w.heap.size o t cells.toList 0 cs (w.alloc (.cells cs t)) (heap_alloc_last w _) (by simpa using hfit)
    (fun v hv => (Array.all_eq_true_iff_forall_mem.1 h1) v (by simpa using hv))
  rw [World.setRow_alloc_new] at this
  cases hq : P.info? ty with
  | none => simp [hq] at hi
  | some i =>
    have hs : cells.size = i.size := by simp [hq] at hi; omega
    simp only [Nat.add_zero] at this
    simp [storeVar, sizeOf, typeInfo, hq, Value.cells, hs, this, splice]

theorem wp_store_mid_new {P : Program} {op : Oper} {a : Act} {w : World} {K : Act → World → Prop} {Q : Exit → Act → World → Prop} (ty : TypeId) (x y : Operand) (ho : op.op = .store ty x y)
    (o : Nat) (cells : Array Value) (hx : a.eval x = .pointer (some ⟨w.heap.size, o, none⟩)) (hy : a.eval y = .agg cells)
    (t : TypeId) (cs : Array Value) (hfit : o + cells.size ≤ cs.size) (hi : (P.info? ty).map (·.size) = some cells.size) (h1 : cells.all (·.oneCell') = true)
    (h : K (a.put op.dst undef) (w.alloc (.cells (splice cs o cells.toList) t))) : op.wp P a (w.alloc (.cells cs t)) K Q := by
  unfold Oper.wp execOp
  simp only [ho, hx, hy, Instr.storeAt, Instr.sureAddr, Sem.run_bind, Sem.run_pure, Result.andThen_ok, run_storeVar_mid_new w o t ty cs cells hfit hi h1]
  exact h

theorem wpList_store_mid_new {P : Program} {ops : Array Oper} {rest : List Oper} {op : Oper} {a : Act} {w : World} {Q : Exit → Act → World → Prop} (hgd : op.guard = none) (ty : TypeId) (x y : Operand) (ho : op.op = .store ty x y)
    (o : Nat) (cells : Array Value) (hx : a.eval x = .pointer (some ⟨w.heap.size, o, none⟩)) (hy : a.eval y = .agg cells)
    (t : TypeId) (cs : Array Value) (hfit : o + cells.size ≤ cs.size) (hi : (P.info? ty).map (·.size) = some cells.size) (h1 : cells.all (·.oneCell') = true)
    (h : wpList P ops Q rest (a.put op.dst undef) (w.alloc (.cells (splice cs o cells.toList) t))) : wpList P ops Q (op :: rest) a (w.alloc (.cells cs t)) :=
  wpList_plain hgd fun _ hK => wp_store_mid_new ty x y ho o cells hx hy t cs hfit hi h1 (hK _ _ h)
end Go.Proofs.Ybulkioi
