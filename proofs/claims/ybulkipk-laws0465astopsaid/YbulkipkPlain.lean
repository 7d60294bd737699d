/-
  THE PLAIN LAW of the dirty reads: no Go here. The popped stacks' heads are the model's search.
-/
namespace Go.Proofs.Ybulkipk
/-- An Index as plain data. -/
structure Dat where
  n : Nat
  kind : Nat → Nat
  txn : Nat → Nat
  item : Nat → ByteArray
  ne : Nat
  ends : Nat → Nat
  hold : Bool
  items : Nat
  oT : Nat → Nat
  oI : Nat → Int
namespace Dat
structure Good (d : Dat) : Prop where
  n_le : d.n ≤ 300
  kind_le : ∀ p, p < d.n → d.kind p ≤ 3
  txn_le : ∀ p, p < d.n → d.txn p ≤ 3
  oT_lt : ∀ p, p < d.n → d.oT p < d.ne
  ends_le : ∀ t, t < d.ne → d.ends t ≤ d.n
  ne_le : d.ne ≤ 3
  items_le : d.items ≤ 2
  oI_neg : ∀ p, p < d.n → ¬ d.kind p ≤ 1 → d.oI p = -1
  oI_pos : ∀ p, p < d.n → d.kind p ≤ 1 → 0 ≤ d.oI p ∧ d.oI p < d.items
  oI_item : ∀ p q, p < d.n → q < d.n → d.kind p ≤ 1 → d.kind q ≤ 1 → (d.oI p = d.oI q ↔ d.item p = d.item q)
/-- where the transaction of operation q ends -/
def e (d : Dat) (q : Nat) : Nat := d.ends (d.oT q)
/-- the transaction of q had aborted ahead of p -/
def ab (d : Dat) (p q : Nat) : Bool := decide (d.e q < p) && d.kind (d.e q) == 3
def ok (d : Dat) (p q : Nat) : Bool := d.kind q == 1 && (decide (d.item q = d.item p) && !d.ab p q)
/-- the model's search from m - 1 downwards -/
def srch (d : Dat) (p : Nat) : Nat → Option Nat
  | 0 => none
  | q + 1 => if d.ok p q then some q else srch d p q
def pairAt (d : Dat) (p : Nat) : List (Nat × Nat) :=
  if d.kind p = 0 then
    match d.srch p p with
    | some w => if d.txn w = d.txn p then [] else [(w, p)]
    | none => []
  else []
/-- what readsFromOthers yields, of the first k operations -/
def rfo (d : Dat) : Nat → List (Nat × Nat)
  | 0 => []
  | p + 1 => rfo d p ++ d.pairAt p
def dirtyB (d : Dat) (x : Nat × Nat) : Bool := d.hold && decide (x.2 ≤ d.e x.1)
def dirty (d : Dat) (k : Nat) : List (Nat × Nat) := (d.rfo k).filter d.dirtyB
/-- item x's stack ahead of operation p -/
def stk (d : Dat) : Nat → Nat → List Nat
  | 0, _ => []
  | p + 1, x => if d.oI p = (x : Int) then (if d.kind p = 1 then p :: stk d p x else (stk d p x).dropWhile (d.ab p)) else stk d p x
theorem ab_mono {d : Dat} {p p' q : Nat} (h : d.ab p q = true) (hp : p ≤ p') : d.ab p' q = true := by
  simp only [ab, Bool.and_eq_true, decide_eq_true_eq] at h ⊢
  exact ⟨by omega, h.2⟩
theorem srch_some {d : Dat} {p m w : Nat} (hw : w < m) (ho : d.ok p w = true) (h : ∀ q, w < q → q < m → d.ok p q = false) : d.srch p m = some w := by
  induction m with
  | zero => omega
  | succ m ih =>
    unfold srch
    by_cases e : w = m
    · subst e; rw [if_pos ho]
    · rw [if_neg (by rw [h m (by omega) (by omega)]; simp)]
      exact ih (by omega) (fun q h1 h2 => h q h1 (by omega))
theorem srch_none {d : Dat} {p m : Nat} (h : ∀ q, q < m → d.ok p q = false) : d.srch p m = none := by
  induction m with
  | zero => rfl
  | succ m ih =>
    unfold srch
    rw [if_neg (by rw [h m (by omega)]; simp)]
    exact ih (fun q hq => h q (by omega))
theorem srch_lt {d : Dat} {p m w : Nat} (h : d.srch p m = some w) : w < m ∧ d.ok p w = true := by
  induction m with
  | zero => simp [srch] at h
  | succ m ih =>
    unfold srch at h
    by_cases e : d.ok p m = true
    · rw [if_pos e] at h; cases h; exact ⟨by omega, e⟩
    · rw [if_neg e] at h
      obtain ⟨a, b⟩ := ih h
      exact ⟨by omega, b⟩
/-- the stack's law -/
structure Inv (d : Dat) (p x : Nat) (L : List Nat) : Prop where
  desc : L.Pairwise (fun a b => b < a)
  mem : ∀ q, q ∈ L → q < p ∧ d.kind q = 1 ∧ d.oI q = (x : Int)
  rest : ∀ q, q < p → d.kind q = 1 → d.oI q = (x : Int) → q ∉ L → d.ab p q = true
theorem mem_dropWhile {α : Type} (f : α → Bool) {L : List α} {q : α} (h : q ∈ L) (hn : q ∉ L.dropWhile f) : f q = true := by
  induction L with
  | nil => simp at h
  | cons a L ih =>
    by_cases e : f a = true
    · rw [List.dropWhile_cons_of_pos e] at hn
      rcases List.mem_cons.1 h with rfl | h'
      · exact e
      · exact ih h' hn
    · rw [List.dropWhile_cons_of_neg e] at hn
      exact absurd h hn
theorem stk_inv (d : Dat) (p x : Nat) : Inv d p x (d.stk p x) := by
  induction p with
  | zero => exact ⟨List.Pairwise.nil, fun q h => by simp [stk] at h, fun q h => by omega⟩
  | succ p ih =>
    unfold stk
    by_cases ho : d.oI p = (x : Int)
    · rw [if_pos ho]
      by_cases hk : d.kind p = 1
      · rw [if_pos hk]
        refine ⟨List.pairwise_cons.2 ⟨fun q hq => (ih.mem q hq).1, ih.desc⟩, fun q hq => ?_, fun q h1 h2 h3 h4 => ?_⟩
        · rcases List.mem_cons.1 hq with rfl | hq'
          · exact ⟨by omega, hk, ho⟩
          · obtain ⟨a, b, c⟩ := ih.mem q hq'
            exact ⟨by omega, b, c⟩
        · have hne : q ≠ p := fun e => h4 (by rw [e]; exact List.mem_cons_self)
          exact ab_mono (ih.rest q (by omega) h2 h3 (fun hm => h4 (List.mem_cons_of_mem _ hm))) (by omega)
      · rw [if_neg hk]
        refine ⟨ih.desc.sublist (List.dropWhile_sublist _), fun q hq => ?_, fun q h1 h2 h3 h4 => ?_⟩
        · obtain ⟨a, b, c⟩ := ih.mem q ((List.dropWhile_sublist _).subset hq)
          exact ⟨by omega, b, c⟩
        · by_cases hm : q ∈ d.stk p x
          · exact ab_mono (mem_dropWhile _ hm h4) (by omega)
          · exact ab_mono (ih.rest q (by by_cases e : q = p; (subst e; exact absurd h2 hk); omega) h2 h3 hm) (by omega)
    · rw [if_neg ho]
      refine ⟨ih.desc, fun q hq => ?_, fun q h1 h2 h3 h4 => ?_⟩
      · obtain ⟨a, b, c⟩ := ih.mem q hq
        exact ⟨by omega, b, c⟩
      · have hne : q ≠ p := fun e => ho (by rw [← e]; exact h3)
        exact ab_mono (ih.rest q (by omega) h2 h3 h4) (by omega)
/-- THE LAW: at a read the popped stack's head is the model's search. -/
theorem head_srch (d : Dat) (g : d.Good) (p x : Nat) (hp : p < d.n) (hk : d.kind p = 0) (hx : d.oI p = (x : Int)) : ((d.stk p x).dropWhile (d.ab p)).head? = d.srch p p := by
  have I := stk_inv d p x
  have okq : ∀ q, q < p → d.ok p q = true → d.kind q = 1 ∧ d.oI q = (x : Int) ∧ d.ab p q = false := fun q hq h => by
    simp only [ok, Bool.and_eq_true, beq_iff_eq, decide_eq_true_eq, Bool.not_eq_true'] at h
    refine ⟨h.1, ?_, h.2.2⟩
    rw [← hx]
    exact (g.oI_item q p (by omega) hp (by omega) (by omega)).2 h.2.1
  cases hd : (d.stk p x).dropWhile (d.ab p) with
  | nil =>
    refine (srch_none fun q hq => ?_).symm
    cases ho : d.ok p q with
    | false => rfl
    | true =>
      obtain ⟨a, b, c⟩ := okq q hq ho
      by_cases hm : q ∈ d.stk p x
      · rw [mem_dropWhile (d.ab p) hm (by rw [hd]; simp)] at c; cases c
      · rw [I.rest q hq a b hm] at c; cases c
  | cons w r =>
    have hw : w ∈ d.stk p x := (List.dropWhile_sublist _).subset (by rw [hd]; simp)
    obtain ⟨w1, w2, w3⟩ := I.mem w hw
    have hnab : d.ab p w = false := by
      have := List.head?_dropWhile_not (d.ab p) (d.stk p x)
      rw [hd] at this
      simpa using this
    refine (srch_some w1 ?_ fun q h1 h2 => ?_).symm
    · simp only [ok, Bool.and_eq_true, beq_iff_eq, decide_eq_true_eq, Bool.not_eq_true']
      exact ⟨w2, (g.oI_item w p (by omega) hp (by omega) (by omega)).1 (by rw [w3, hx]), hnab⟩
    · cases ho : d.ok p q with
      | false => rfl
      | true =>
        obtain ⟨a, b, c⟩ := okq q h2 ho
        by_cases hm : q ∈ d.stk p x
        · by_cases hm2 : q ∈ (d.stk p x).dropWhile (d.ab p)
          · have hdd : ((d.stk p x).dropWhile (d.ab p)).Pairwise (fun a b => b < a) := I.desc.sublist (List.dropWhile_sublist _)
            rw [hd] at hm2 hdd
            rcases List.mem_cons.1 hm2 with rfl | hm3
            · omega
            · have := (List.pairwise_cons.1 hdd).1 q hm3
              omega
          · rw [mem_dropWhile (d.ab p) hm hm2] at c; cases c
        · rw [I.rest q h2 a b hm] at c; cases c
end Dat
/-- a stack's head as Go keeps it -/
def hd : List Nat → Int
  | [] => -1
  | q :: _ => q
/-- 'below' links the stack's elements -/
def Chain (bel : Nat → Int) : List Nat → Prop
  | [] => True
  | q :: r => bel q = hd r ∧ Chain bel r
theorem Chain.congr {bel bel' : Nat → Int} : ∀ {L : List Nat}, Chain bel L → (∀ q, q ∈ L → bel' q = bel q) → Chain bel' L
  | [], _, _ => trivial
  | q :: r, h, hc => ⟨(hc q (by simp)).trans h.1, Chain.congr h.2 (fun a ha => hc a (by simp [ha]))⟩
theorem Chain.drop {bel : Nat → Int} (f : Nat → Bool) : ∀ {L : List Nat}, Chain bel L → Chain bel (L.dropWhile f)
  | [], h => h
  | q :: r, h => by
    by_cases e : f q = true
    · rw [List.dropWhile_cons_of_pos e]; exact Chain.drop f h.2
    · rw [List.dropWhile_cons_of_neg e]; exact h
end Go.Proofs.Ybulkipk
