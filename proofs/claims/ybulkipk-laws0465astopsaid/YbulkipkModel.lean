/-
  The contract of the plain model (function 11): it hands back a slice of its own that holds the flattened dirty pairs.
-/
import Derived.Test.YbulkipkSt
import Derived.Deep.QuietTactic
import Derived.BigQuiet
import Derived.OwnWalk
import Derived.Maps.AppendAt
namespace Go.Proofs.Ybulkipk
open Go.ChangeShapes Go.WideShapes Go.ChangeAt Go.RowKit
def fl (l : List (Nat × Nat)) : List Value := l.flatMap fun x => [.int .i64 (x.1 : Int), .int .i64 (x.2 : Int)]
theorem info3 : (Yba.prog.info? 3).map (fun i => (i.zero, i.size, i.bytes)) = some (some (.int .i64 0), 1, 8) := by kernel_rfl
structure Mst (d : Dat) (R : Blk) (w : World) (p : Nat) (v : Value) (wr : World) : Prop where
  own : wr.ownsRow w.heap.size 3 1 v (fl (d.dirty p)).length (fl (d.dirty p))
  ix : IxAt d R wr
  bel : Below w.heap.size w wr
theorem Mst.drewN {d : Dat} {R : Blk} {w : World} {p : Nat} {v : Value} {wr : World} (h : Mst d R w p v wr) (n : Nat) : Mst d R w p v (wr.drewN n) :=
  ⟨h.own, h.ix.of_same (fun _ _ => rfl), h.bel.trans ⟨rfl, rfl, rfl, Nat.le_refl _, fun _ _ => rfl⟩⟩
theorem dirty_nil {d : Dat} {p : Nat} (h : d.pairAt p = []) : d.dirty (p + 1) = d.dirty p := by simp [Dat.dirty, rfo_nil h]
theorem dirty_no {d : Dat} {p x : Nat} (h : d.pairAt p = [(x, p)]) (hb : d.dirtyB (x, p) = false) : d.dirty (p + 1) = d.dirty p := by simp [Dat.dirty, rfo_one h, hb]
theorem dirty_yes {d : Dat} {p x : Nat} (h : d.pairAt p = [(x, p)]) (hb : d.dirtyB (x, p) = true) : d.dirty (p + 1) = d.dirty p ++ [(x, p)] := by simp [Dat.dirty, rfo_one h, hb]
theorem Mst.next {d : Dat} {R : Blk} {w : World} {p : Nat} {v : Value} {wr : World} (h : Mst d R w p v wr) (hd : d.dirty (p + 1) = d.dirty p) : Mst d R w (p + 1) v wr :=
  ⟨by rw [hd]; exact h.own, h.ix, h.bel⟩
theorem pairAt_len (d : Dat) (p : Nat) : (d.pairAt p).length ≤ 1 := by
  unfold Dat.pairAt
  split
  · split
    · split <;> simp
    · simp
  · simp
theorem rfo_len (d : Dat) : ∀ p, (d.rfo p).length ≤ p
  | 0 => by simp [Dat.rfo]
  | p + 1 => by
    have := rfo_len d p
    have := pairAt_len d p
    simp [Dat.rfo]; omega
theorem fl_len (l : List (Nat × Nat)) : (fl l).length = 2 * l.length := by
  induction l with
  | nil => rfl
  | cons a l ih =>
    have : fl (a :: l) = [.int .i64 (a.1 : Int), .int .i64 (a.2 : Int)] ++ fl l := rfl
    rw [this, List.length_append, ih]
    simp only [List.length_cons, List.length_nil]
    omega
theorem dirty_len (d : Dat) (p : Nat) : (fl (d.dirty p)).length ≤ 2 * p := by
  rw [fl_len]
  have := rfo_len d p
  have : (d.dirty p).length ≤ (d.rfo p).length := List.length_filter_le _ _
  omega
theorem fl_snoc (l : List (Nat × Nat)) (x : Nat × Nat) : fl (l ++ [x]) = fl l ++ [.int .i64 (x.1 : Int), .int .i64 (x.2 : Int)] := by simp [fl]
theorem srch_skip {d : Dat} {p m : Nat} (h : d.ok p m = false) : d.srch p (m + 1) = d.srch p m := by
  conv => lhs; unfold Dat.srch
  rw [if_neg (by rw [h]; simp)]
theorem srch_hit {d : Dat} {p m : Nat} (h : d.ok p m = true) : d.srch p (m + 1) = some m := by
  conv => lhs; unfold Dat.srch
  rw [if_pos h]
theorem mgoal {d : Dat} {R : Blk} {w wr' : World} {p : Nat} {v : Value} (hp : p < d.n) (hm : Mst d R w (p + 1) v wr') :
    (∃ (p_1 : Nat) (v_1 : Value), p_1 ≤ d.n ∧ Value.int .i64 ((p : Int) + 1) = Value.int .i64 (p_1 : Int) ∧ v = v_1 ∧ Mst d R w p_1 v_1 wr') ∧
    d.n - (intOf (.int .i64 ((p : Int) + 1))).toNat < d.n - (intOf (.int .i64 (p : Int))).toNat :=
  ⟨⟨p + 1, v, by omega, by go_num, rfl, hm⟩, by simp [intOf]; omega⟩
theorem igoal {d : Dat} {R : Blk} {w wr' : World} {p m : Nat} {v : Value} (hmp : m + 1 ≤ p) (hs : d.srch p p = d.srch p m) (hm : Mst d R w p v wr') :
    (∃ m_1 : Nat, m_1 ≤ p ∧ Value.int .i64 ((m : Int) - 1) = Value.int .i64 ((m_1 : Int) - 1) ∧ Value.int .i64 (-1) = Value.int .i64 (-1) ∧ d.srch p p = d.srch p m_1 ∧ Mst d R w p v wr') ∧
    (intOf (.int .i64 ((m : Int) - 1)) + 1).toNat < (intOf (.int .i64 (m : Int)) + 1).toNat :=
  ⟨⟨m, by omega, rfl, rfl, hs, hm⟩, by simp [intOf]⟩
theorem Mst.push {d : Dat} {R : Blk} {w wr w1 : World} {p x : Nat} {v v' : Value} (hbk : ∀ k, R.has k → k < w.heap.size) (h : Mst d R w p v wr) (hy : d.dirty (p + 1) = d.dirty p ++ [(x, p)]) (o : Obj)
    (hown : w1.ownsRow w.heap.size 3 1 v' ((fl (d.dirty p)).length + 2) (fl (d.dirty p) ++ [.int .i64 (x : Int), .int .i64 (p : Int)])) (hg : (wr.alloc o).grownBy w1 v.ownBlock) : Mst d R w (p + 1) v' w1 := by
  have hlow : ∀ k, v.ownBlock = some k → w.heap.size ≤ k := fun k e => (h.own.lt k e).1
  refine ⟨?_, ?_, ?_⟩
  · rw [hy, fl_snoc, List.length_append]; exact hown
  · refine h.ix.of_same (fun k hk => ?_)
    have hk' := hbk k hk
    have hs := h.bel.size
    rw [hg.block k (by simp; omega) (fun e => by have := hlow k e.symm; omega), Below.heap_alloc _ _ _ (by omega)]
  · exact (h.bel.alloc h.bel.size o).grown hg (by have := h.bel.size; simp; omega) hlow
theorem item_ne {a b : ByteArray} (h : ¬ a = b) : (a.toList == b.toList) = false := by
  refine beq_eq_false_iff_ne.2 (fun e => h ?_)
  rw [ByteArray.toList_eq, ByteArray.toList_eq] at e
  cases a; cases b
  simp at e
  rw [e]
theorem item_eq {a b : ByteArray} (h : a = b) : (a.toList == b.toList) = true := by rw [h]; simp
theorem ok_kind {d : Dat} {p m : Nat} (h : ¬ d.kind m = 1) : d.ok p m = false := by simp [Dat.ok, h]
theorem ok_item {d : Dat} {p m : Nat} (h : ¬ d.item m = d.item p) : d.ok p m = false := by simp [Dat.ok, h]
theorem ok_ab {d : Dat} {p m : Nat} (h : d.ab p m = true) : d.ok p m = false := by simp [Dat.ok, h]
theorem ok_yes {d : Dat} {p m : Nat} (h1 : d.kind m = 1) (h2 : d.item m = d.item p) (h3 : d.ab p m = false) : d.ok p m = true := by simp [Dat.ok, h1, h2, h3]
theorem ab_true {d : Dat} {p m : Nat} (h : d.ab p m = true) : d.ends (d.oT m) < p ∧ d.kind (d.ends (d.oT m)) = 3 := by
  unfold Dat.ab Dat.e at h
  rw [Bool.and_eq_true] at h
  exact ⟨of_decide_eq_true h.1, beq_iff_eq.1 h.2⟩
theorem ab_mk {d : Dat} {p m : Nat} (h1 : d.ends (d.oT m) < p) (h2 : d.kind (d.ends (d.oT m)) = 3) : d.ab p m = true := by
  unfold Dat.ab Dat.e
  rw [Bool.and_eq_true]
  exact ⟨decide_eq_true h1, beq_iff_eq.2 h2⟩
theorem dirtyB_lt {d : Dat} {p m : Nat} (h : d.ends (d.oT m) < p) : d.dirtyB (m, p) = false := by
  have e : decide (p ≤ d.e m) = false := decide_eq_false (by unfold Dat.e; omega)
  show (d.hold && decide (p ≤ d.e m)) = false
  rw [e]; simp
theorem dirtyB_ge {d : Dat} {p m : Nat} (hh : d.hold = true) (h : ¬ d.ends (d.oT m) < p) : d.dirtyB (m, p) = true := by
  have e : decide (p ≤ d.e m) = true := decide_eq_true (by unfold Dat.e; omega)
  show (d.hold && decide (p ≤ d.e m)) = true
  rw [e, hh]; rfl
theorem two_new (w : World) (x y : Value) (t : TypeId) (j : Nat) (u : Value) (h : [x, y][j]? = some u) : (w.alloc (.cells #[x, y] t)).cell? ((⟨w.heap.size, 0, none⟩ : Addr).add j) = some u := by
  have hadd : (⟨w.heap.size, 0, none⟩ : Addr).add j = ⟨w.heap.size, j, none⟩ := by unfold Addr.add; split <;> simp_all
  rw [hadd, cell_of_row _ _ _ _ _ _ (World.alloc_heap_new w _)]
  simpa using h
set_option maxRecDepth 100000 in
set_option maxHeartbeats 1000000 in
theorem model_any (d : Dat) (g : d.Good) (R : Blk) (w : World) (h : IxAt d R w) (hbk : ∀ k, R.has k → k < w.heap.size) :
    Calls Yba.prog 11 #[.pointer (some ⟨R.b, 0, none⟩)] w fun e w' => ∃ v, e = .returned v ∧ Mst d R w d.n v w' := by
  have c0 := h.f0
  have hnn := g.n_le
  have hb1 : R.b < w.heap.size := block_lt_of_cell c0
  have HBK : Hid _ := hbk
  clear hbk
  obtain ⟨i0, hi0, hz0, hz1, hz2⟩ := info_parts info3
  go_enter Yba.func11, Yba.ntmps11
  go_wp2_with fail
  go_loopw [5, 3] (fun i o wr => ∃ (p : Nat) (v : Value), p ≤ d.n ∧ i = .int .i64 p ∧ o = v ∧ Mst d R w p v wr) (fun i _ _ => d.n - (intOf i).toNat)
  case atStart =>
    refine ⟨0, _, Nat.zero_le _, rfl, rfl, ⟨rfl, .inr ⟨w.heap.size, 0, #[], rfl, Nat.le_refl _, World.alloc_heap_new w _, Nat.le_refl _, Nat.zero_le _, rfl, rfl⟩⟩, ?_, (Below.refl _ _).alloc (Nat.le_refl _) _⟩
    exact h.of_same (fun k hk => Below.heap_alloc _ _ _ (HBK.out k hk))
  case round =>
    obtain ⟨p, v, hp, rfl, hv, hm⟩ := hrel
    subst hv
    by_cases hpn : p < d.n
    · have ck := hm.ix.kind p hpn
      by_cases hk : d.kind p = 0
      · have k0 : ((d.kind p : Int) != 0) = false := by rw [hk]; rfl
        have HK : Hid _ := hk
        have HM : Hid _ := hm
        clear hk hm
        go_wp2_with fail
        clear ck
        go_loopw [7, 6] (fun q x wr2 => ∃ m : Nat, m ≤ p ∧ q = .int .i64 ((m : Int) - 1) ∧ x = .int .i64 (-1) ∧ d.srch p p = d.srch p m ∧ Mst d R w p _ wr2) (fun q _ _ => (intOf q + 1).toNat)
        case atStart => exact ⟨p, Nat.le_refl _, rfl, rfl, rfl, HM.out⟩
        case round =>
          obtain ⟨m, hmp, rfl, rfl, hsr, hm2⟩ := hrel
          have HSR : Hid _ := hsr
          clear hsr HM
          cases m with
          | zero =>
            have e0 : (((0 : Nat) : Int) - 1) = -1 := by omega
            rw [e0]
            go_wp2_with fail
            go_quiet (fail)
            go_wp2_with fail
            exact mgoal hpn ((hm2.drewN _).next (dirty_nil (pair_none HSR.out)))
          | succ m =>
            have e0 : (((m + 1 : Nat) : Int) - 1) = (m : Int) := by omega
            rw [e0]
            clear e0
            have hmn : m < d.n := by omega
            have ckm := hm2.ix.kind m hmn
            have cim := hm2.ix.item m hmn
            have cip := hm2.ix.item p hpn
            by_cases hk1 : d.kind m = 1
            · have kb : ((d.kind m : Int) != 1) = false := by rw [hk1]; rfl
              by_cases hit : d.item m = d.item p
              · have hib := item_eq hit
                have cf2 := hm2.ix.f2
                have cf5 := hm2.ix.f5
                have cT := hm2.ix.oT m hmn
                have hTl := g.oT_lt m hmn
                have hne := g.ne_le
                have cE := hm2.ix.ends (d.oT m) hTl
                have heN := g.ends_le _ hTl
                have HK1 : Hid _ := hk1
                have HIT : Hid _ := hit
                clear hk1 hit
                cases hab : d.ab p m with
                | true =>
                  obtain ⟨ha1, ha2⟩ := ab_true hab
                  have cK := hm2.ix.kind (d.ends (d.oT m)) (by omega)
                  have kab : ((d.kind (d.ends (d.oT m)) : Int) == 3) = true := by rw [ha2]; rfl
                  have HAB : Hid _ := hab
                  clear ha2 hab
                  go_wp2_with fail
                  go_quiet (fail)
                  go_wp2_with fail
                  go_quiet (fail)
                  go_wp2_with fail
                  exact igoal hmp (HSR.out.trans (srch_skip (ok_ab HAB.out))) (hm2.drewN _)
                | false =>
                  have hsm : Hid (d.srch p p = some m) := HSR.out.trans (srch_hit (ok_yes HK1.out HIT.out hab))
                  have ctm := hm2.ix.txn m hmn
                  have ctp := hm2.ix.txn p hpn
                  have cf3 := hm2.ix.f3
                  by_cases hlt : d.ends (d.oT m) < p
                  · by_cases htx : d.txn m = d.txn p
                    · have htb : ((d.txn m : Int) == (d.txn p : Int)) = true := by rw [htx]; simp
                      have HTX : Hid _ := htx
                      clear htx
                      have cK := hm2.ix.kind (d.ends (d.oT m)) (by omega)
                      have kab : ((d.kind (d.ends (d.oT m)) : Int) == 3) = false := by
                        refine beq_eq_false_iff_ne.2 (fun e => ?_)
                        have : d.kind (d.ends (d.oT m)) = 3 := by omega
                        rw [ab_mk hlt this] at hab; cases hab
                      clear hab
                      go_wp2_with fail
                      go_quiet (fail)
                      go_wp2_with fail
                      go_quiet (fail)
                      go_wp2_with fail
                      go_quiet (fail)
                      go_wp2_with fail
                      exact mgoal hpn ((hm2.drewN _).next (dirty_nil (pair_same hsm.out HTX.out)))
                    · have htb : ((d.txn m : Int) == (d.txn p : Int)) = false := beq_eq_false_iff_ne.2 (by omega)
                      have HPR : Hid _ := pair_yes HK.out hsm.out htx
                      have HDB : Hid (d.dirtyB (m, p) = false) := by
                        exact dirtyB_lt hlt
                      clear htx
                      cases hh : d.hold with
                      | false =>
                        rw [hh] at cf3
                        clear hh
                        have cK := hm2.ix.kind (d.ends (d.oT m)) (by omega)
                        have kab : ((d.kind (d.ends (d.oT m)) : Int) == 3) = false := by
                          refine beq_eq_false_iff_ne.2 (fun e => ?_)
                          have : d.kind (d.ends (d.oT m)) = 3 := by omega
                          rw [ab_mk hlt this] at hab; cases hab
                        clear hab
                        go_wp2_with fail
                        go_quiet (fail)
                        go_wp2_with fail
                        go_quiet (fail)
                        go_wp2_with fail
                        go_quiet (fail)
                        go_wp2_with fail
                        go_quiet (fail)
                        go_wp2_with fail
                        exact mgoal hpn ((hm2.drewN _).next (dirty_no HPR.out HDB.out))
                      | true =>
                        rw [hh] at cf3
                        clear hh
                        have cK := hm2.ix.kind (d.ends (d.oT m)) (by omega)
                        have kab : ((d.kind (d.ends (d.oT m)) : Int) == 3) = false := by
                          refine beq_eq_false_iff_ne.2 (fun e => ?_)
                          have : d.kind (d.ends (d.oT m)) = 3 := by omega
                          rw [ab_mk hlt this] at hab; cases hab
                        clear hab
                        go_wp2_with fail
                        go_quiet (fail)
                        go_wp2_with fail
                        go_quiet (fail)
                        go_wp2_with fail
                        go_quiet (fail)
                        go_wp2_with fail
                        go_quiet (fail)
                        go_wp2_with fail
                        exact mgoal hpn ((hm2.drewN _).next (dirty_no HPR.out HDB.out))
                  · by_cases htx : d.txn m = d.txn p
                    · have htb : ((d.txn m : Int) == (d.txn p : Int)) = true := by rw [htx]; simp
                      have HTX : Hid _ := htx
                      clear htx
                      clear hab
                      go_wp2_with fail
                      go_quiet (fail)
                      go_wp2_with fail
                      go_quiet (fail)
                      go_wp2_with fail
                      go_quiet (fail)
                      go_wp2_with fail
                      exact mgoal hpn ((hm2.drewN _).next (dirty_nil (pair_same hsm.out HTX.out)))
                    · have htb : ((d.txn m : Int) == (d.txn p : Int)) = false := beq_eq_false_iff_ne.2 (by omega)
                      have HPR : Hid _ := pair_yes HK.out hsm.out htx
                      clear htx
                      cases hh : d.hold with
                      | false =>
                        have HDB : Hid (d.dirtyB (m, p) = false) := by show d.dirtyB (m, p) = false; simp [Dat.dirtyB, hh]
                        rw [hh] at cf3
                        clear hh
                        clear hab
                        go_wp2_with fail
                        go_quiet (fail)
                        go_wp2_with fail
                        go_quiet (fail)
                        go_wp2_with fail
                        go_quiet (fail)
                        go_wp2_with fail
                        go_quiet (fail)
                        go_wp2_with fail
                        exact mgoal hpn ((hm2.drewN _).next (dirty_no HPR.out HDB.out))
                      | true =>
                        have HDB : Hid (d.dirtyB (m, p) = true) := by
                          exact dirtyB_ge hh hlt
                        rw [hh] at cf3
                        clear hh
                        clear hab
                        go_wp2_with fail
                        go_quiet (fail)
                        go_wp2_with fail
                        go_quiet (fail)
                        go_wp2_with fail
                        go_quiet (fail)
                        go_wp2_with fail
                        go_quiet (fail)
                        go_wp2_with (at_builtin; refine wpList_append_own _ rfl _ _ 25 rfl w.heap.size 3 i0 (.int .i64 0) 1 8 Yba.underlying25 hi0 hz0 hz1 hz2 rfl (by decide) _ _ _ rfl ((hm2.drewN _).own.alloc _) ⟨wr.heap.size, 0, none⟩ 2 2 [.int .i64 (m : Int), .int .i64 (p : Int)] rfl rfl (two_new _ _ _ _) (by simp [Value.oneCell']) (by have := dirty_len d p; unfold maxLen; omega) (by have := dirty_len d p; omega) (by have := hm2.bel.size; simp; omega) ?_; intro v' w1 hown' hgrow _; have HOWN : Hid _ := hown'; have HGR : Hid _ := hgrow; clear hown' hgrow)
                        exact mgoal hpn ((hm2.drewN _).push HBK.out (dirty_yes HPR.out HDB.out) _ HOWN.out HGR.out)
              · have hib := item_ne hit
                go_wp2_with fail
                go_quiet (fail)
                go_wp2_with fail
                exact igoal hmp (HSR.out.trans (srch_skip (ok_item hit))) (hm2.drewN _)
            · have kb : ((d.kind m : Int) != 1) = true := by rw [bne_iff_ne]; omega
              go_wp2_with fail
              go_quiet (fail)
              go_wp2_with fail
              exact igoal hmp (HSR.out.trans (srch_skip (ok_kind hk1))) (hm2.drewN _)
      · have k0 : ((d.kind p : Int) != 0) = true := by rw [bne_iff_ne]; omega
        go_wp2_with fail
        exact mgoal hpn (hm.next (dirty_nil (pair_kind hk)))
    · obtain rfl : p = d.n := by omega
      go_wp2
      go_ret
      exact ⟨_, rfl, hm⟩
end Go.Proofs.Ybulkipk
