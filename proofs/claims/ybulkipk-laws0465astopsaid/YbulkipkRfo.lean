/-
  readsFromOthers$1 (function 20) has its contract as an iterator: it hands on 'd.rfo d.n'.
-/
import Derived.Test.YbulkipkIx
import Derived.Test.YbulkipkIter
import Derived.Test.YbulkipkSt
import Derived.Test.YbulkipkRepeat
import Derived.OwnWalkIn
import Derived.TacticsInMore
import Derived.LoopNIn
import Derived.LoopIn
import Derived.Deep.OwnRows
import Derived.Deep.QuietTactic
import Derived.BigQuiet
namespace Go.Proofs.Ybulkipk
open Go.RowKit Go.Shelf
attribute [local go_sem] Oper.semAt_some
theorem hd_lt {a : Nat} {r : List Nat} (h : (a :: r).Pairwise (fun a b => b < a)) : (hd r + 1).toNat < ((a : Int) + 1).toNat := by
  cases r with
  | nil => simp [hd]
  | cons b r =>
    have := (List.pairwise_cons.1 h).1 b (by simp)
    simp only [hd]
    omega
set_option maxRecDepth 100000 in
set_option maxHeartbeats 1000000 in
theorem rfo_iter (d : Dat) (g : d.Good) (R : Blk) (W : World) (bx : Nat) (hbx : W.cell? ⟨bx, 0, none⟩ = some (.pointer (some ⟨R.b, 0, none⟩))) (h : IxAt d R W) (T : Nat → Prop) (hT : ∀ k, T k → k < W.heap.size)
    (hR : ∀ k, R.has k ∨ k = bx → ¬ T k ∧ k < W.heap.size) : Iter Yba.prog 20 #[.pointer (some ⟨bx, 0, none⟩)] 3 T (d.rfo d.n) W := by
  intro l J Jx hJ hJx hY h0
  have HJ : Hid _ := hJ
  have HJx : Hid _ := hJx
  have HY : Hid _ := hY
  have HT : Hid _ := hT
  have HR : Hid _ := hR
  have H0 : Hid _ := h0
  have hnn := g.n_le
  have hit := g.items_le
  have c0 := h.f0
  have c4 := h.f4
  have hb1 : R.b < W.heap.size := (hR _ (.inl (.inl rfl))).2
  have hb2 : bx < W.heap.size := (hR _ (.inr rfl)).2
  clear hJ hJx hY hT hR h0
  have hmk := run_make_row' (P := Yba.prog) 46 21 (.int .i32 0) 4 Yba.underlying46 info21 rfl .i64 .i64 d.n (by omega) (by omega)
  refine callsIn_of_wp Yba.func20 rfl trivial ?_ rfl
  simp only [Yba.ntmps20, List.size_toArray, List.length_cons, List.length_nil, Nat.reduceAdd, Nat.reduceSub, Array.replicate_succ, Array.replicate_zero, List.push_toArray, List.append_toArray, List.nil_append, List.cons_append]
  gi_wp2_with fail
  refine ⟨trivial, rfl, (callsIn_wide.2 (repeat_any _ _ d.items hit (heap_alloc_last W _))).mono ?_⟩
  rintro e w1 ⟨rfl, k, cs, rfl, hcs, hcs2⟩
  have HC1 : Hid _ := hcs
  have HC2 : Hid _ := hcs2
  clear hcs hcs2
  gi_wp2_with fail
  clear hmk
  gi_loopw [27] (fun i wr => ∃ (p : Nat) (lastc belc : Array Value) (bel : Nat → Int), p ≤ d.n ∧ i = .int .i64 p ∧ St d R bx W.heap.size p wr lastc belc bel ∧ J (d.rfo p) wr) (fun i _ => d.n - (intOf i).toNat)
  case atStart => exact ⟨0, _, _, _, Nat.zero_le _, rfl, st_start h hbx (fun k hk => (HR.out k hk).2) HC1.out HC2.out _, HJ.out _ _ _ H0.out ((((Moves.alloc _ _ _ _).trans (Moves.alloc _ _ _ _)).trans (Moves.drewN _ _ _ _)).trans (Moves.alloc _ _ _ _))⟩
  case round =>
    obtain ⟨p, lastc, belc, bel, hp, rfl, hs, hJp⟩ := hrel
    have HJp : Hid _ := hJp
    clear hJp HJx H0 HC1 HC2 c0 c4 hb1 hb2 h hbx
    by_cases hpn : p < d.n
    · have c6 := hs.ix.f6
      have cb := hs.bx
      have ck := hs.ix.kind p hpn
      have ct := hs.ix.txn p hpn
      have ci := hs.ix.item p hpn
      have co := hs.ix.oI p hpn
      have s1 : R.b < wr.heap.size := block_lt_of_cell hs.ix.f0
      have s2 : bx < wr.heap.size := block_lt_of_cell cb
      have s3 : R.bi < wr.heap.size := block_lt_of_cell co
      have s4 : R.bs < wr.heap.size := block_lt_of_cell ck
      have sz := hs.sz
      have s5 : W.heap.size + 1 < wr.heap.size := by omega
      have s6 : W.heap.size + 1 + 1 < wr.heap.size := by omega
      by_cases hk : d.kind p ≤ 1
      · obtain ⟨o1, o2⟩ := g.oI_pos p hpn hk
        obtain ⟨xi, hxi⟩ := Int.eq_ofNat_of_zero_le o1
        have hxl : xi < d.items := by rw [hxi] at o2; omega
        rw [hxi] at co
        have cl : wr.cell? ⟨W.heap.size + 1, xi, none⟩ = some (.int .i32 (hd (d.stk p xi))) := (cell_of_row _ _ _ _ _ _ hs.l0).trans (hs.l2 xi hxl)
        have fl : wr.frozen? ⟨W.heap.size + 1, xi, none⟩ = false := frozen_of_row _ _ _ _ _ hs.l0
        have HX : Hid _ := hxi
        have hx0 : decide ((xi : Int) < 0) = false := by simp
        clear o1 o2 hxi
        by_cases hk1 : d.kind p = 1
        · have k0 : ((d.kind p : Int) == 0) = false := by rw [hk1]; rfl
          have k1 : ((d.kind p : Int) == 1) = true := by rw [hk1]; rfl
          have cB : wr.cell? ⟨W.heap.size + 1 + 1, p, none⟩ = some (.int .i32 (bel p)) := (cell_of_row _ _ _ _ _ _ hs.b0).trans (hs.b2 p hpn)
          have fB : wr.frozen? ⟨W.heap.size + 1 + 1, p, none⟩ = false := frozen_of_row _ _ _ _ _ hs.b0
          have HK : Hid _ := hk1
          clear hk1 hk
          gi_wp2_with (first | (refine ⟨trivial, rfl, ?_⟩; gi_at_call 24; refine (callsIn_wide.2 (reads_any _ _)).mono ?_; rintro e w' ⟨rfl, rfl⟩) | (refine ⟨trivial, rfl, ?_⟩; gi_at_call 25; refine (callsIn_wide.2 (writes_any _ _)).mono ?_; rintro e w' ⟨rfl, rfl⟩))
          refine ⟨fun _ h => (by cases h), ?_⟩
          gi_wp2_with (first | (refine ⟨trivial, rfl, ?_⟩; gi_at_call 24; refine (callsIn_wide.2 (reads_any _ _)).mono ?_; rintro e w' ⟨rfl, rfl⟩) | (refine ⟨trivial, rfl, ?_⟩; gi_at_call 25; refine (callsIn_wide.2 (writes_any _ _)).mono ?_; rintro e w' ⟨rfl, rfl⟩))
          exact rgoal hpn ((hs.write (fun k hk => (HR.out k hk).2) HX.out HK.out hxl hpn).alloc (fun k hk => (HR.out k hk).2) _)
            (by rw [rfo_nil (pair_kind (by rw [HK.out]; omega))]
                exact HJ.out _ _ _ HJp.out (((Moves.setCell _ _ _ (by show W.heap.size ≤ W.heap.size + 1 + 1; omega) (by show W.heap.size + 1 + 1 < W.heap.size + 3; omega)).trans (Moves.setCell _ _ _ (by show W.heap.size ≤ W.heap.size + 1; omega) (by show W.heap.size + 1 < W.heap.size + 3; omega))).trans (Moves.alloc _ _ _ _)))
        · have hk0 : d.kind p = 0 := by omega
          have k0 : ((d.kind p : Int) == 0) = true := by rw [hk0]; rfl
          have k1 : ((d.kind p : Int) == 1) = false := by rw [hk0]; rfl
          have HK : Hid _ := hk0
          have HK1 : Hid _ := hk1
          clear hk0 hk1 hk
          have HS : Hid _ := Dat.head_srch d g p xi hpn HK.out HX.out
          cases hL : d.stk p xi with
          | nil =>
            have HL : Hid _ := hL
            rw [hL] at cl
            have cl2 : wr.cell? ⟨W.heap.size + 1, xi, none⟩ = some (.int .i32 (-1)) := cl
            clear hL cl fl
            gi_wp2_with (first | (refine ⟨trivial, rfl, ?_⟩; gi_at_call 24; refine (callsIn_wide.2 (reads_any _ _)).mono ?_; rintro e w' ⟨rfl, rfl⟩) | (refine ⟨trivial, rfl, ?_⟩; gi_at_call 25; refine (callsIn_wide.2 (writes_any _ _)).mono ?_; rintro e w' ⟨rfl, rfl⟩) | (refine ⟨trivial, rfl, ?_⟩; gi_at_call 22; refine (callsIn_wide.2 (abortedBy_neg _ _ _)).mono ?_; rintro e w' ⟨rfl, rfl⟩))
            refine wpIn_wide.2 ?_
            go_quiet (fail)
            gi_wp2
            exact rgoal hpn (((hs.next (fun x _ => stk_read_same HX.out HK1.out (by rw [HL.out]; rfl) x)).alloc (fun k hk => (HR.out k hk).2) _).drewN _)
              (by rw [rfo_nil (pair_none (by rw [← HS.out, HL.out]; rfl))]; exact HJ.out _ _ _ HJp.out ((Moves.alloc _ _ _ _).trans (Moves.drewN _ _ _ _)))
          | cons q r =>
            have hinv := Dat.stk_inv d p xi
            rw [hL] at hinv
            have hqn : q < d.n := by have := (hinv.mem q (by simp)).1; omega
            have cl2 : wr.cell? ⟨W.heap.size + 1, xi, none⟩ = some (.int .i32 (q : Int)) := by rw [hL] at cl; exact cl
            have HL : Hid _ := hL
            have HI : Hid _ := hinv
            clear hL cl hinv
            have ctq := hs.ix.txn q hqn
            cases hab : d.ab p q with
            | false =>
              have hixA : ∀ o, IxAt d R (wr.alloc o) := fun o => (hs.alloc (fun k hk => (HR.out k hk).2) o).ix
              have hbxA : ∀ o, (wr.alloc o).cell? ⟨bx, 0, none⟩ = some (.pointer (some ⟨R.b, 0, none⟩)) := fun o => (hs.alloc (fun k hk => (HR.out k hk).2) o).bx
              have HIX : Hid _ := hixA
              have HBX : Hid _ := hbxA
              have HAB : Hid _ := hab
              have hsr : Hid (d.srch p p = some q) := by
                show d.srch p p = some q
                rw [← HS.out, HL.out, List.dropWhile_cons_of_neg (by rw [hab]; simp)]; rfl
              have hdw : Hid ((d.stk p xi).dropWhile (d.ab p) = d.stk p xi) := by
                show (d.stk p xi).dropWhile (d.ab p) = d.stk p xi
                rw [HL.out, List.dropWhile_cons_of_neg (by rw [hab]; simp)]
              clear hab hixA hbxA fl
              by_cases htx : d.txn q = d.txn p
              · have htb : ((d.txn q : Int) != (d.txn p : Int)) = false := by rw [htx]; simp
                have HTX : Hid _ := htx
                clear htx
                gi_wp2_with (first | (refine ⟨trivial, rfl, ?_⟩; gi_at_call 24; refine (callsIn_wide.2 (reads_any _ _)).mono ?_; rintro e w' ⟨rfl, rfl⟩) | (refine ⟨trivial, rfl, ?_⟩; gi_at_call 25; refine (callsIn_wide.2 (writes_any _ _)).mono ?_; rintro e w' ⟨rfl, rfl⟩) | (refine ⟨trivial, rfl, ?_⟩; gi_at_call 22; refine (callsIn_wide.2 (abortedBy_pos d g R _ (HIX.out _) bx q p (HBX.out _) hqn hp)).mono ?_; rw [HAB.out]; rintro e w' ⟨rfl, rfl⟩))
                refine wpIn_wide.2 ?_
                go_quiet (fail)
                gi_wp2
                exact rgoal hpn (((hs.next (fun x _ => stk_read_same HX.out HK1.out hdw.out x)).alloc (fun k hk => (HR.out k hk).2) _).drewN _)
                  (by rw [rfo_nil (pair_same hsr.out HTX.out)]; exact HJ.out _ _ _ HJp.out ((Moves.alloc _ _ _ _).trans (Moves.drewN _ _ _ _)))
              · have htb : ((d.txn q : Int) != (d.txn p : Int)) = true := by rw [bne_iff_ne]; omega
                have HPR : Hid _ := pair_yes HK.out hsr.out htx
                clear htx
                gi_wp2_with (first | (refine ⟨trivial, rfl, ?_⟩; gi_at_call 24; refine (callsIn_wide.2 (reads_any _ _)).mono ?_; rintro e w' ⟨rfl, rfl⟩) | (refine ⟨trivial, rfl, ?_⟩; gi_at_call 25; refine (callsIn_wide.2 (writes_any _ _)).mono ?_; rintro e w' ⟨rfl, rfl⟩) | (refine ⟨trivial, rfl, ?_⟩; gi_at_call 22; refine (callsIn_wide.2 (abortedBy_pos d g R _ (HIX.out _) bx q p (HBX.out _) hqn hp)).mono ?_; rw [HAB.out]; rintro e w' ⟨rfl, rfl⟩))
                refine wpIn_wide.2 ?_
                go_quiet (fail)
                obtain ⟨fn, tmps, assign, body, hy, hRd⟩ := HY.out (d.rfo p) (q, p) ((wr.alloc (.cells #[.int .u8 (d.kind p : Int), .int .i64 (d.txn p : Int), .string (d.item p)] 64)).drewN nq) (HJ.out _ _ _ HJp.out ((Moves.alloc _ _ _ _).trans (Moves.drewN _ _ _ _))) (by rw [← rfo_one HPR.out]; exact rfo_prefix (by omega)) (by simp; omega)
                dsimp only [encs] at hy
                gi_wp2
                refine ⟨rfl, hRd.mono ?_⟩
                rintro e W3 (⟨rfl, hJ3, hk3⟩ | ⟨rfl, hJx3, _⟩)
                · have HJ3 : Hid _ := hJ3
                  have HK3 : Hid _ := hk3
                  clear hJ3 hk3 hy
                  gi_wp2
                  exact rgoal hpn ((((hs.next (fun x _ => stk_read_same HX.out HK1.out hdw.out x)).alloc (fun k hk => (HR.out k hk).2) _).drewN _).keeps HK3.out HT.out HR.out) (by rw [rfo_one HPR.out]; exact HJ3.out)
                · have HJ3 : Hid _ := hJx3
                  clear hJx3 hy
                  gi_wp2
                  refine bodyPost_ret (results_none rfl _ _ _) rfl ?_
                  exact ⟨⟨_, rfl⟩, .inr ⟨d.rfo p ++ [(q, p)], by rw [← rfo_one HPR.out]; exact rfo_prefix (by omega), HJ3.out⟩⟩
            | true =>
              have hixA : ∀ o, IxAt d R (wr.alloc o) := fun o => (hs.alloc (fun k hk => (HR.out k hk).2) o).ix
              have hbxA : ∀ o, (wr.alloc o).cell? ⟨bx, 0, none⟩ = some (.pointer (some ⟨R.b, 0, none⟩)) := fun o => (hs.alloc (fun k hk => (HR.out k hk).2) o).bx
              have HIX : Hid _ := hixA
              have HBX : Hid _ := hbxA
              have HAB : Hid _ := hab
              clear hab hixA hbxA
              gi_wp2_with (first | (refine ⟨trivial, rfl, ?_⟩; gi_at_call 24; refine (callsIn_wide.2 (reads_any _ _)).mono ?_; rintro e w' ⟨rfl, rfl⟩) | (refine ⟨trivial, rfl, ?_⟩; gi_at_call 25; refine (callsIn_wide.2 (writes_any _ _)).mono ?_; rintro e w' ⟨rfl, rfl⟩) | (refine ⟨trivial, rfl, ?_⟩; gi_at_call 22; refine (callsIn_wide.2 (abortedBy_pos d g R _ (HIX.out _) bx q p (HBX.out _) hqn hp)).mono ?_; rw [HAB.out]; rintro e w' ⟨rfl, rfl⟩))
              gi_loop [10] (fun v => ∃ L', v = .int .i32 (hd L') ∧ L'.dropWhile (d.ab p) = (d.stk p xi).dropWhile (d.ab p) ∧ Chain bel L' ∧ L'.Pairwise (fun a b => b < a) ∧ ∀ a, a ∈ L' → a < p) (fun v => (intOf v + 1).toNat)
              case atStart => exact ⟨q :: r, rfl, by rw [HL.out], by have := hs.ch xi hxl; rw [HL.out] at this; exact this, HI.out.desc, fun a ha => (HI.out.mem a ha).1⟩
              case round =>
                obtain ⟨L', hv, hdw, hch, hpw, hlt⟩ := hrel
                have HDW : Hid _ := hdw
                have HCH : Hid _ := hch
                have HPW : Hid _ := hpw
                have HLT : Hid _ := hlt
                clear hdw hch hpw hlt
                have hpop := hs.pop (fun k hk => (HR.out k hk).2) HX.out HK1.out hxl
                rw [← HDW.out] at hpop
                have HPOP : Hid _ := hpop
                clear hpop
                cases L' with
                | nil =>
                  change _ = Value.int .i32 (-1) at hv
                  subst hv
                  gi_wp2_with (first | (refine ⟨trivial, rfl, ?_⟩; gi_at_call 24; refine (callsIn_wide.2 (reads_any _ _)).mono ?_; rintro e w' ⟨rfl, rfl⟩) | (refine ⟨trivial, rfl, ?_⟩; gi_at_call 25; refine (callsIn_wide.2 (writes_any _ _)).mono ?_; rintro e w' ⟨rfl, rfl⟩) | (refine ⟨trivial, rfl, ?_⟩; gi_at_call 22; refine (callsIn_wide.2 (abortedBy_neg _ _ _)).mono ?_; rintro e w' ⟨rfl, rfl⟩))
                  refine wpIn_wide.2 ?_
                  go_quiet (fail)
                  gi_wp2
                  exact rgoal hpn ((HPOP.out.alloc (fun k hk => (HR.out k hk).2) _).drewN _)
                    (by rw [rfo_nil (pair_none (by rw [← HS.out, ← HDW.out]; rfl))]; exact HJ.out _ _ _ HJp.out (((Moves.setCell _ _ _ (by show W.heap.size ≤ W.heap.size + 1; omega) (by show W.heap.size + 1 < W.heap.size + 3; omega)).trans (Moves.alloc _ _ _ _)).trans (Moves.drewN _ _ _ _)))
                | cons a r' =>
                  change _ = Value.int .i32 (a : Int) at hv
                  subst hv
                  have hap : a < p := HLT.out a (by simp)
                  have han : a < d.n := by omega
                  cases hab2 : d.ab p a with
                  | true =>
                    have HAB2 : Hid _ := hab2
                    have cB : wr.cell? ⟨W.heap.size + 1 + 1, a, none⟩ = some (.int .i32 (bel a)) := (cell_of_row _ _ _ _ _ _ hs.b0).trans (hs.b2 a han)
                    clear hab2
                    gi_wp2_with (first | (refine ⟨trivial, rfl, ?_⟩; gi_at_call 22; refine (callsIn_wide.2 (abortedBy_pos d g R _ (HIX.out _) bx a p (HBX.out _) han hp)).mono ?_; rw [HAB2.out]; rintro e w' ⟨rfl, rfl⟩))
                    exact ⟨⟨r', by rw [HCH.out.1], by rw [← HDW.out, List.dropWhile_cons_of_pos HAB2.out], HCH.out.2, (List.pairwise_cons.1 HPW.out).2, fun b hb => HLT.out b (by simp [hb])⟩, by
                      rw [HCH.out.1]
                      simp only [intOf]
                      exact hd_lt HPW.out⟩
                  | false =>
                    have HAB2 : Hid _ := hab2
                    have hsr : Hid (d.srch p p = some a) := by
                      show d.srch p p = some a
                      rw [← HS.out, ← HDW.out, List.dropWhile_cons_of_neg (by rw [hab2]; simp)]; rfl
                    have hpop2 := HPOP.out
                    rw [List.dropWhile_cons_of_neg (by rw [hab2]; simp)] at hpop2
                    have HPOP2 : Hid _ := hpop2
                    have cta : (wr.setCell ⟨W.heap.size + 1, xi, none⟩ (.int .i32 (a : Int))).cell? ⟨R.bs, a * 3 + 1, none⟩ = some (.int .i64 (d.txn a : Int)) := hpop2.ix.txn a han
                    clear hab2 hpop2
                    by_cases htx : d.txn a = d.txn p
                    · have htb : ((d.txn a : Int) != (d.txn p : Int)) = false := by rw [htx]; simp
                      have HTX : Hid _ := htx
                      clear htx
                      gi_wp2_with (first | (refine ⟨trivial, rfl, ?_⟩; gi_at_call 24; refine (callsIn_wide.2 (reads_any _ _)).mono ?_; rintro e w' ⟨rfl, rfl⟩) | (refine ⟨trivial, rfl, ?_⟩; gi_at_call 25; refine (callsIn_wide.2 (writes_any _ _)).mono ?_; rintro e w' ⟨rfl, rfl⟩) | (refine ⟨trivial, rfl, ?_⟩; gi_at_call 22; refine (callsIn_wide.2 (abortedBy_pos d g R _ (HIX.out _) bx a p (HBX.out _) han hp)).mono ?_; rw [HAB2.out]; rintro e w' ⟨rfl, rfl⟩))
                      refine wpIn_wide.2 ?_
                      go_quiet (fail)
                      gi_wp2
                      exact rgoal hpn ((HPOP2.out.alloc (fun k hk => (HR.out k hk).2) _).drewN _)
                        (by rw [rfo_nil (pair_same hsr.out HTX.out)]; exact HJ.out _ _ _ HJp.out (((Moves.setCell _ _ _ (by show W.heap.size ≤ W.heap.size + 1; omega) (by show W.heap.size + 1 < W.heap.size + 3; omega)).trans (Moves.alloc _ _ _ _)).trans (Moves.drewN _ _ _ _)))
                    · have htb : ((d.txn a : Int) != (d.txn p : Int)) = true := by rw [bne_iff_ne]; omega
                      have HPR : Hid _ := pair_yes HK.out hsr.out htx
                      clear htx
                      gi_wp2_with (first | (refine ⟨trivial, rfl, ?_⟩; gi_at_call 24; refine (callsIn_wide.2 (reads_any _ _)).mono ?_; rintro e w' ⟨rfl, rfl⟩) | (refine ⟨trivial, rfl, ?_⟩; gi_at_call 25; refine (callsIn_wide.2 (writes_any _ _)).mono ?_; rintro e w' ⟨rfl, rfl⟩) | (refine ⟨trivial, rfl, ?_⟩; gi_at_call 22; refine (callsIn_wide.2 (abortedBy_pos d g R _ (HIX.out _) bx a p (HBX.out _) han hp)).mono ?_; rw [HAB2.out]; rintro e w' ⟨rfl, rfl⟩))
                      refine wpIn_wide.2 ?_
                      go_quiet (fail)
                      obtain ⟨fn, tmps, assign, body, hy, hRd⟩ := HY.out (d.rfo p) (a, p) (((wr.setCell ⟨W.heap.size + 1, xi, none⟩ (.int .i32 (a : Int))).alloc (.cells #[.int .u8 (d.kind p : Int), .int .i64 (d.txn p : Int), .string (d.item p)] 64)).drewN nq) (HJ.out _ _ _ HJp.out (((Moves.setCell _ _ _ (by show W.heap.size ≤ W.heap.size + 1; omega) (by show W.heap.size + 1 < W.heap.size + 3; omega)).trans (Moves.alloc _ _ _ _)).trans (Moves.drewN _ _ _ _))) (by rw [← rfo_one HPR.out]; exact rfo_prefix (by omega)) (by have := HPOP2.out.sz; simp; omega)
                      dsimp only [encs] at hy
                      gi_wp2
                      refine ⟨rfl, hRd.mono ?_⟩
                      rintro e W3 (⟨rfl, hJ3, hk3⟩ | ⟨rfl, hJx3, _⟩)
                      · have HJ3 : Hid _ := hJ3
                        have HK3 : Hid _ := hk3
                        clear hJ3 hk3 hy
                        gi_wp2
                        exact rgoal hpn (((HPOP2.out.alloc (fun k hk => (HR.out k hk).2) _).drewN _).keeps HK3.out HT.out HR.out) (by rw [rfo_one HPR.out]; exact HJ3.out)
                      · have HJ3 : Hid _ := hJx3
                        clear hJx3 hy
                        gi_wp2
                        refine bodyPost_ret (results_none rfl _ _ _) rfl ?_
                        exact ⟨⟨_, rfl⟩, .inr ⟨d.rfo p ++ [(a, p)], by rw [← rfo_one HPR.out]; exact rfo_prefix (by omega), HJ3.out⟩⟩
      · have hn1 := g.oI_neg p hpn hk
        rw [hn1] at co
        have HN : Hid _ := hn1
        clear hn1
        gi_wp2_with fail
        exact rgoal hpn ((hs.next (fun x _ => stk_none HN.out x)).alloc (fun k hk => (HR.out k hk).2) _) (by rw [rfo_nil (pair_kind (by omega))]; exact HJ.out _ _ _ HJp.out (Moves.alloc _ _ _ _))
    · obtain rfl : p = d.n := by omega
      gi_wp2
      go_end0
      exact ⟨⟨_, rfl⟩, .inl HJp.out⟩
end Go.Proofs.Ybulkipk
