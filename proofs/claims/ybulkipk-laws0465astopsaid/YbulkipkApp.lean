/-
  The kit's append law with one word more: the row behind an append is the old one, or a new one.
-/
import Derived.OwnWalkIn
import Derived.Laws.AppendOwn
namespace Go.Proofs.Ybulkipk
open Go.RowKit
theorem append_block {P : Program} {w w' : World} {base : Nat} {t ty e : TypeId} {i : TypeInfo} {z : Value} {bytes : Nat} (ht : P.underlying t = some (.slice e)) (hi : P.info? e = some i) (hz : i.zero = some z)
    (hby : i.bytes = bytes) {v v' : Value} {n : Nat} {xs : List Value} (hown : w.ownsRow base e i.size v n xs)
    {a : Addr} {m c : Nat} {news : List Value} (hl : news.length = m * i.size) (hnews : ∀ j u, news[j]? = some u → w.cell? (a.add j) = some u) (h1 : ∀ u ∈ news, u.oneCell' = true)
    (h63 : n + m ≤ maxLen) (hbytes : (n + m) * bytes ≤ 140737488355328)
    (hrun : (Builtin.append_ #[t, t] ty #[v, .slice (some a) m c]).run P w = .ok v' w') : ∀ k, v'.ownBlock = some k → v.ownBlock = some k ∨ w.heap.size ≤ k := by
  subst hby
  have hsmall : n + m ≤ 9223372036854775807 := by simp only [maxLen] at h63; omega
  intro k hk
  rcases hown.2 with ⟨rfl, rfl⟩ | ⟨g, cap, cur, rfl, hbg, hg, hnc, hcm, hcs, htake⟩
  · by_cases hm : m = 0
    · subst hm
      have hr : (Builtin.append_ #[t, t] ty #[.slice none 0 0, .slice (some a) 0 c]).run P w = .ok (.slice none 0 0) w := by
        simp [Builtin.append_, run_underlying ht, sizeOf, typeInfo, hi, Builtin.lenOf, Builtin.firstCells, loadCells, loadCellsFrom]
      rw [hr] at hrun
      injection hrun with e1 e2
      subst e1
      simp [Value.ownBlock] at hk
    · have hr := run_append_nil (P := P) w t ty e i z ht hi hz a m c news hl hnews (by omega) (by omega) (by have hb := hbytes; simp only [Nat.zero_add] at hb; omega)
      rw [hr] at hrun
      injection hrun with e1 e2
      subst e1
      simp [Value.ownBlock] at hk
      exact .inr (by omega)
  · by_cases hroom : n + m ≤ cap
    · have hfit : n * i.size + news.length ≤ cur.size := by rw [hl, hcs, ← Nat.add_mul]; exact Nat.mul_le_mul_right _ hroom
      have hr := run_append_room (P := P) w t ty e i ht hi g n cap cur hg a m c news hl hnews h1 hroom hfit
      rw [hr] at hrun
      injection hrun with e1 e2
      subst e1
      exact .inl hk
    · have holds : ∀ j u, xs[j]? = some u → w.cell? ((⟨g, 0, none⟩ : Addr).add j) = some u := hown.cells (g := g) rfl
      have hr := run_append_grow (P := P) w t ty e i z ht hi hz ⟨g, 0, none⟩ n cap xs hown.1 holds a m c news hl hnews (by omega) (by omega) (growslice_fits (by omega) hbytes)
      rw [hr] at hrun
      injection hrun with e1 e2
      subst e1
      simp [Value.ownBlock] at hk
      exact .inr (by omega)
theorem wpListIn_append_sharp {F : Fence} {n : Nat} {P : Program} (w : World) {ops : Array Oper} {rest : List Oper} {o : Oper} {a : Act} {Q : Exit → Act → World → Prop}
    (hg : o.guard = none) (s x : Operand) (t : TypeId) (hop : o.op = Op.call { callee := Callee.builtin Builtin.append, args := #[s, x], argTypes := #[t, t] })
    (base : Nat) (e : TypeId) (i : TypeInfo) (z : Value) (size bytes : Nat) (h1 : P.underlying t = some (.slice e)) (h2 : P.info? e = some i) (h3 : i.zero = some z) (h4 : i.size = size) (h5 : i.bytes = bytes) (h6 : z.cells.size = size) (h7 : 0 < size)
    (v : Value) (k : Nat) (xs : List Value) (hs : a.eval s = v) (hown : w.ownsRow base e size v k xs) (ad : Addr) (m c : Nat) (news : List Value) (hx : a.eval x = .slice (some ad) m c) (hn : news.length = m * size)
    (hc : ∀ j u, news[j]? = some u → w.cell? (ad.add j) = some u) (h1c : ∀ u ∈ news, u.oneCell' = true) (b1 : k + m ≤ maxLen) (b2 : (k + m) * bytes ≤ 140737488355328) (b3 : base ≤ w.heap.size)
    (hK : ∀ v' w', w'.ownsRow base e size v' (k + m) (xs ++ news) → w.grownBy w' v.ownBlock → (∀ j, v'.ownBlock = some j → v.ownBlock = some j ∨ w.heap.size ≤ j) → wpListIn F n P ops Q rest (a.put o.dst v') w') :
    wpListIn F n P ops Q (o :: rest) a w := by
  refine wpListIn_plain hg fun K hK' => ?_
  obtain ⟨v', w', hrun, r1, r2, r3⟩ := run_append_own (P := P) w base t o.type e i z size bytes h1 h2 h3 h4 h5 h6 h7 v k xs hown ad m c news hn hc h1c b1 b2 b3
  subst h4
  have r4 := append_block (ty := o.type) h1 h2 h3 h5 hown hn hc h1c b1 b2 hrun
  unfold Oper.wpIn
  refine ⟨?_, ?_⟩
  · simp [Oper.about, hop, resolve, Target.leads, Sem.run_pure]
  · rw [Oper.semAt_plain F _ _ (by rw [hop]; intro c hc'; cases hc')]
    simp [execOp, hop, resolve, invoke, builtin, hs, hx, hrun, Result.andThen]
    exact hK' _ _ (hK v' w' r1 r2 r4)
end Go.Proofs.Ybulkipk
