/-
  'LawS0465AStop', walked (function 4).
-/
import Derived.Test.YbulkipkGot
import Derived.Deep.RegionWith
namespace Go.Proofs.Ybulkipk
open Go.RowKit Go.Shelf
attribute [local go_sem] Oper.semAt_some
/-- 'got', 'count' and 'k' between two rounds -/
structure Stp (w : World) (d : Dat) (R : Blk) (ga gb cb kb hi k : Nat) (pre : List (Nat × Nat)) (v : Value) (X : World) : Prop where
  got : Got w d R ga gb hi pre v X
  cnt : Boxed X cb 3 (.int .i64 (pre.length : Int))
  top : Boxed X kb 3 (.int .i64 (k : Int))
theorem Stp.moves {w : World} {d : Dat} {R : Blk} {ga gb cb kb lo n hi k : Nat} {pre : List (Nat × Nat)} {v : Value} {X Y : World} (h : Stp w d R ga gb cb kb hi k pre v X) (hm : Moves lo n X Y) (h0 : ga ≤ gb) (h2 : gb < lo) (h3 : lo + n ≤ hi) (h4 : w.heap.size ≤ lo)
    (hR : ∀ k, R.has k → k < ga) (h5 : cb < lo) (h6 : kb < lo) : Stp w d R ga gb cb kb hi k pre v Y :=
  ⟨h.got.moves hm h0 h2 h3 h4 hR, (hm.block cb h.cnt.lt (.inl h5)).trans h.cnt, (hm.block kb h.top.lt (.inl h6)).trans h.top⟩
theorem Got.setOther {w : World} {d : Dat} {R : Blk} {ga gb hi c : Nat} {pre : List (Nat × Nat)} {v : Value} {X : World} (h : Got w d R ga gb hi pre v X) (u : Value) (h1 : c ≠ ga) (h2 : c ≠ gb) (h3 : c < hi) (h4 : w.heap.size ≤ c) (hR : ¬ R.has c) :
    Got w d R ga gb hi pre v (X.setCell ⟨c, 0, none⟩ u) := by
  have hk : ∀ k, k ≠ c → (X.setCell ⟨c, 0, none⟩ u).heap[k]? = X.heap[k]? := fun k hk => Below.heap_setCell _ _ _ _ hk
  refine ⟨(hk gb (Ne.symm h2)).trans h.box, ?_, h.blk, h.ix.of_same (fun k hk' => hk k (fun e => hR (e ▸ hk'))), h.bel.setCell (p := ⟨c, 0, none⟩) h4 u⟩
  obtain ⟨o1, o2⟩ := h.own
  refine ⟨o1, ?_⟩
  rcases o2 with o2 | ⟨g, cap, cur, hv, hg, hh, r⟩
  · exact .inl o2
  · have hb := h.blk g (by rw [hv]; rfl)
    exact .inr ⟨g, cap, cur, hv, hg, (hk g (by omega)).trans hh, r⟩
/-- behind 'count++' -/
theorem Stp.count {w : World} {d : Dat} {R : Blk} {ga gb cb kb hi k : Nat} {pre : List (Nat × Nat)} {x : Nat × Nat} {v v' : Value} {X Y : World} (h : Stp w d R ga gb cb kb hi k pre v X) (hg : Got w d R ga gb hi (pre ++ [x]) v' Y) (hk : Keeps (fun k => k = ga ∨ k = gb) hi X Y)
    (h1 : cb ≠ ga) (h2 : cb ≠ gb) (h3 : cb < hi) (h4 : w.heap.size ≤ cb) (hR : ¬ R.has cb) (h5 : kb ≠ ga) (h6 : kb ≠ gb) (h7 : kb ≠ cb) (h8 : kb < hi) :
    Boxed Y cb 3 (.int .i64 (pre.length : Int)) ∧ Stp w d R ga gb cb kb hi k (pre ++ [x]) v' (Y.setCell ⟨cb, 0, none⟩ (.int .i64 ((pre.length : Int) + 1))) ∧
      Keeps (fun k => k = ga ∨ k = gb ∨ k = cb) hi X (Y.setCell ⟨cb, 0, none⟩ (.int .i64 ((pre.length : Int) + 1))) := by
  have hc : Boxed Y cb 3 (.int .i64 (pre.length : Int)) := (hk.block cb h3 (by omega)).trans h.cnt
  have ht : Boxed Y kb 3 (.int .i64 (k : Int)) := (hk.block kb h8 (by omega)).trans h.top
  refine ⟨hc, ⟨hg.setOther _ h1 h2 h3 h4 hR, ?_, ?_⟩, ?_⟩
  · have := hc.set (.int .i64 ((pre.length : Int) + 1))
    simpa using this
  · exact (Below.heap_setCell _ _ _ _ h7).trans ht
  · exact ⟨hk.os, hk.tape, hk.output, by simpa using hk.size, fun j hj hn => (Below.heap_setCell _ _ _ _ (by show j ≠ cb; omega)).trans (hk.block j hj (by omega))⟩
theorem own_some {wr : World} {base e size m : Nat} {tv : Value} {xs : List Value} (h : wr.ownsRow base e size tv m xs) (hm : 0 < m) : ∃ g cap, tv = .slice (some ⟨g, 0, none⟩) m cap ∧ m ≤ cap := by
  rcases h.2 with ⟨rfl, rfl⟩ | ⟨g, cap, cur, rfl, _, _, hc, _⟩
  · omega
  · exact ⟨_, _, rfl, hc⟩
theorem eq_stop (w : World) (b1 b2 : Nat) (v1 : Value) (g2 n c2 c3 m : Nat) (pre xs : List (Nat × Nat)) (h1 : w.ownsRow b1 3 1 v1 (fl pre).length (fl pre)) (h2 : w.ownsRow b2 3 1 (.slice (some ⟨g2, 0, none⟩) n c2) n (fl xs)) (hp : pre <+: xs) (hl : (fl xs).length ≤ 1000) (hm : m = (fl pre).length) :
    Calls Yba.prog 10 #[v1, .slice (some ⟨g2, 0, none⟩) m c3] w fun e w' => e = .returned (.bool true) ∧ Drawn w w' := by
  subst hm
  obtain ⟨t, rfl⟩ := hp
  have hf : fl (pre ++ t) = fl pre ++ fl t := by simp [fl]
  rw [hf] at h2 hl
  simp at hl
  have hn : (fl pre).length + (fl t).length = n := by have := h2.1; simpa using this
  by_cases h0 : (fl pre).length = 0
  · obtain ⟨a1, c1, rfl⟩ := own_form h1
    rw [h0]
    exact eq_zero a1 _ c1 c3 w
  · rcases h1.2 with ⟨_, e⟩ | ⟨g1, c1, cur1, rfl, _⟩
    · exact absurd e h0
    · refine eq_some g1 g2 _ c1 c3 (nth (fl pre)) w (by omega) (fun j hj => (h1.cellAt j (by omega)).trans (nth_fl pre j hj)) (fun j hj => (h2.cellAt j (by omega)).trans ?_)
      rw [List.getElem?_append_left hj]
      exact nth_fl pre j hj
set_option maxRecDepth 100000 in
set_option maxHeartbeats 1000000 in
theorem astop (w : World) (a : Option Addr) (len cap : Nat) (s : Nat) (hs : s < 256) (hb : len ≤ 300 → ∀ o, Calls Yba.prog 8 #[.slice a len cap] (w.alloc o) (Built (w.alloc o) len)) :
    CallsIn Fence.wide 0 Yba.prog 4 #[.slice a len cap, .int .u8 (s : Int)] w fun e w' => e = .returned (.bool true) ∧ Below w.heap.size w w' := by
  have HB : Hid _ := hb
  clear hb
  refine callsIn_of_wp_marks Yba.func4 rfl trivial ?_ rfl
  simp only [Yba.ntmps4, List.size_toArray, List.length_cons, List.length_nil, Nat.reduceAdd, Nat.reduceSub, Array.replicate_succ, Array.replicate_zero, List.push_toArray, List.append_toArray, List.nil_append, List.cons_append]
  by_cases hlen : len ≤ 300
  · have hd : decide (300 < (len : Int)) = false := by simp; omega
    obtain ⟨k, hk4, hk⟩ : ∃ k : Nat, k < 4 ∧ (s : Int) % 4 = (k : Int) := ⟨s % 4, by omega, by omega⟩
    gi_wp2_with fail
    rw [hk]
    refine ⟨trivial, rfl, (callsIn_wide.2 (HB.out hlen _)).mono ?_⟩
    rintro e w1 ⟨d, R, rfl, g, hn, hix, hbel0, hRb0⟩
    have HN : Hid _ := hn
    clear hn
    have HK : Hid _ := hk
    clear hk HB
    have hkb : Boxed w1 w.heap.size 3 (.int .i64 (k : Int)) := (hbel0.block w.heap.size (by simp)).trans (Boxed.new w 3 _)
    have hbel : Below w.heap.size w w1 := ((Below.refl _ w).alloc (Nat.le_refl _) _).trans (hbel0.mono (by simp))
    have hRb : ∀ j, R.has j → w.heap.size < j ∧ j < w1.heap.size := fun j hj => by have := hRb0 j hj; simp at this; omega
    clear hbel0 hRb0
    obtain ⟨i0, hi0, hz0, hz1, hz2⟩ := info_parts info3
    have HKB : Hid _ := hkb
    clear hkb
    gi_wp2_with (refine ⟨trivial, rfl, ?_⟩; gi_at_call 9; refine (callsIn_wide.2 (dirtyReads_any _ _)).mono ?_; rintro e w' ⟨rfl, rfl⟩)


    obtain ⟨W0, hW0⟩ : ∃ W0 : World, ((((w1.alloc (.cells #[] 3)).alloc (.cells #[.slice (some ⟨w1.heap.size, 0, none⟩) 0 0] 25)).alloc (.cells #[.int .i64 0] 3)).alloc (.cells #[.pointer (some ⟨R.b, 0, none⟩)] 23)) = W0 := ⟨_, rfl⟩
    rw [hW0]
    have hsz : W0.heap.size = w1.heap.size + 4 := by rw [← hW0]; simp
    have e0 : W0.heap[w1.heap.size]? = some (.cells #[] 3 (0, 0)) := by
      rw [← hW0, Below.heap_alloc _ _ _ (by simp; omega), Below.heap_alloc _ _ _ (by simp; omega), Below.heap_alloc _ _ _ (by simp)]; exact World.alloc_heap_new w1 _
    have e1 : W0.heap[w1.heap.size + 1]? = some (.cells #[.slice (some ⟨w1.heap.size, 0, none⟩) 0 0] 25 (0, 0)) := by
      rw [← hW0, Below.heap_alloc _ _ _ (by simp), Below.heap_alloc _ _ _ (by simp)]
      have := World.alloc_heap_new (w1.alloc (.cells #[] 3)) (.cells #[.slice (some ⟨w1.heap.size, 0, none⟩) 0 0] 25)
      rwa [World.size_alloc] at this
    have e2 : W0.heap[w1.heap.size + 1 + 1]? = some (.cells #[.int .i64 0] 3 (0, 0)) := by
      rw [← hW0, Below.heap_alloc _ _ _ (by simp)]
      have := World.alloc_heap_new ((w1.alloc (.cells #[] 3)).alloc (.cells #[.slice (some ⟨w1.heap.size, 0, none⟩) 0 0] 25)) (.cells #[.int .i64 0] 3)
      rwa [World.size_alloc, World.size_alloc] at this
    have e3 : W0.heap[w1.heap.size + 1 + 1 + 1]? = some (.cells #[.pointer (some ⟨R.b, 0, none⟩)] 23 (0, 0)) := by
      rw [← hW0]
      have := World.alloc_heap_new (((w1.alloc (.cells #[] 3)).alloc (.cells #[.slice (some ⟨w1.heap.size, 0, none⟩) 0 0] 25)).alloc (.cells #[.int .i64 0] 3)) (.cells #[.pointer (some ⟨R.b, 0, none⟩)] 23)
      rwa [World.size_alloc, World.size_alloc, World.size_alloc] at this
    have hold : ∀ k, k < w1.heap.size → W0.heap[k]? = w1.heap[k]? := fun k hk => by
      rw [← hW0, Below.heap_alloc _ _ _ (by simp; omega), Below.heap_alloc _ _ _ (by simp; omega), Below.heap_alloc _ _ _ (by simp; omega), Below.heap_alloc _ _ _ hk]
    have hbl0 : Below w.heap.size w W0 := by
      rw [← hW0]; exact (((hbel.alloc hbel.size _).alloc (by have := hbel.size; simp; omega) _).alloc (by have := hbel.size; simp; omega) _).alloc (by have := hbel.size; simp; omega) _
    have hix0 : IxAt d R W0 := hix.of_same (fun k hk => hold k (hRb k hk).2)
    clear hW0
    have hs1 := hbel.size
    have hs2 : w.heap.size < w1.heap.size := (Array.getElem?_eq_some_iff.1 HKB.out).1
    have hgot0 : Stp w d R w1.heap.size (w1.heap.size + 1) (w1.heap.size + 1 + 1) w.heap.size (w1.heap.size + 13) k [] (.slice (some ⟨w1.heap.size, 0, none⟩) 0 0) W0 :=
      ⟨⟨e1, ⟨rfl, .inr ⟨w1.heap.size, 0, #[], rfl, Nat.le_refl _, e0, Nat.le_refl _, Nat.zero_le _, rfl, rfl⟩⟩, fun k hk => by simp [Value.ownBlock] at hk; exact .inl hk.symm, hix0, hbl0⟩, e2, (hold _ hs2).trans HKB.out⟩
    clear HKB
    have hRc : ¬ R.has (w1.heap.size + 1 + 1) := fun h => by have := (hRb _ h).2; omega
    refine range_law (gf := 16) (lb := #[.pointer (some ⟨w1.heap.size + 1 + 1 + 1, 0, none⟩)]) rfl (enters_of Yba.func16 (by kernel_rfl) rfl) (fun k => k = w1.heap.size ∨ k = w1.heap.size + 1 ∨ k = w1.heap.size + 1 + 1) (fun k t => by omega) 7 (d.dirty d.n) ?hseq rfl
      (fun pre X => pre.length ≤ k ∧ ∃ v, Stp w d R w1.heap.size (w1.heap.size + 1) (w1.heap.size + 1 + 1) w.heap.size (w1.heap.size + 13) k pre v X)
      (fun c ys X => c = .exit 0 ∧ ∃ pre x v, ys = pre ++ [x] ∧ pre.length = k ∧ Stp w d R w1.heap.size (w1.heap.size + 1) (w1.heap.size + 1 + 1) w.heap.size (w1.heap.size + 13) k pre v X) ?hI ?hIx ⟨Nat.zero_le _, _, hgot0⟩
      (fun x => { tmps := #[.slice a len cap, .int .u8 (s : Int), undef, undef, .bool false, .pointer (some ⟨w.heap.size, 0, none⟩), .pointer (some ⟨R.b, 0, none⟩), .pointer (some ⟨w1.heap.size + 1, 0, none⟩), .pointer (some ⟨w1.heap.size + 1 + 1, 0, none⟩), .int .i64 (x.1 : Int), .int .i64 (x.2 : Int), undef, .slice a len cap, .int .i64 (len : Int), .bool false, .int .u8 (s : Int), .int .u8 (k : Int), .int .i64 (k : Int), .slice a len cap, .pointer (some ⟨R.b, 0, none⟩), .slice (some ⟨w1.heap.size, 0, none⟩) 0 0, .pointer (some ⟨R.b, 0, none⟩), .func (.func 16) #[] #[.pointer (some ⟨w1.heap.size + 1 + 1 + 1, 0, none⟩)], .int .i64 (x.1 : Int), .int .i64 (x.2 : Int), undef, undef, undef, undef, undef, undef, undef, undef, undef, undef, undef, undef, undef, undef, undef, undef, undef, undef, undef, undef, undef, undef, undef, undef], defers := [] }) ?assign ?body ?done ?stop
    case hseq =>
      intro W1 hb1 hz1
      refine dirty_iter d g R W1 (w1.heap.size + 1 + 1 + 1) ?_ (hix0.of_same (fun k hk => hb1.block k (by have := (hRb k hk).2; omega))) _ ?_ ?_
      · exact (cell_of_row _ _ _ _ _ _ ((hb1.block (w1.heap.size + 1 + 1 + 1) (by omega)).trans e3)).trans rfl
      · rintro k ((rfl | rfl | rfl) | rfl) <;> omega
      · rintro k (hk | rfl)
        · have := (hRb k hk).2
          exact ⟨fun t => by omega, by omega⟩
        · exact ⟨fun t => by omega, by omega⟩
    case hI =>
      rintro s X Y ⟨hl, v, hg⟩ hm
      exact ⟨hl, v, hg.moves hm (by omega) (by omega) (by omega) (by omega) (fun k hk => (hRb k hk).2) (by omega) (by omega)⟩
    case hIx =>
      rintro c s X Y ⟨hc, pre, x, v, hy, hl, hg⟩ hm
      exact ⟨hc, pre, x, v, hy, hl, hg.moves hm (by omega) (by omega) (by omega) (by omega) (fun k hk => (hRb k hk).2) (by omega) (by omega)⟩
    case assign =>
      intro l' x X K hK
      dsimp only [encs]
      gi_wp2
      exact hK
    case body =>
      rintro l' pre ⟨xw, xp⟩ X ⟨hl, v, hg⟩ hpre hz
      have hbc := hg.got.box.cell
      have hbf := hg.got.box.frozen
      have hcc := hg.cnt.cell
      have htc := hg.top.cell
      have hbz := hg.got.box.lt
      have hpl : (fl pre).length ≤ 600 := by
        have h1 := dirty_len d d.n
        have h2 := hpre.length_le
        have h3 := g.n_le
        rw [fl_len] at h1 ⊢
        simp at h2
        omega
      have HG : Hid _ := hg
      clear hpre hg
      by_cases hlk : pre.length = k
      · have hd2 : decide ((k : Int) ≤ (pre.length : Int)) = true := by simp; omega
        gi_wp2
        exact ⟨⟨rfl, rfl, rfl, Nat.le_refl _, fun _ _ _ => rfl⟩, rfl, pre, _, v, rfl, hlk, HG.out⟩
      · have hd2 : decide ((k : Int) ≤ (pre.length : Int)) = false := by simp; omega
        gi_wp2_with (gi_at_builtin; refine wpListIn_append_sharp _ rfl _ _ 25 rfl w1.heap.size 3 i0 (.int .i64 0) 1 8 Yba.underlying25 hi0 hz0 hz1 hz2 rfl (by decide) v (fl pre).length (fl pre) rfl (HG.out.got.own.alloc _) ⟨X.heap.size, 0, none⟩ 2 2 [.int .i64 (xw : Int), .int .i64 (xp : Int)] rfl rfl (two_new _ _ _ _) (by simp [Value.oneCell']) (by unfold maxLen; omega) (by omega) (by simp; omega) ?_; intro v' w2 hown' hgrow hblk; obtain ⟨g', cap', rfl⟩ := ownsRow_succ hown'; obtain ⟨hb1, hgot', hkp⟩ := HG.out.got.push (x := (xw, xp)) (by omega) (by omega) (by omega) (by omega) (fun k hk => (hRb k hk).2) hown' hgrow hblk; obtain ⟨hb2, hstp, hkp2⟩ := HG.out.count hgot' hkp (by omega) (by omega) (by omega) (by omega) hRc (by omega) (by omega) (by omega) (by omega); have hc1 := hb1.cell; have hf1 := hb1.frozen; have hc2 := hb2.cell; have hf2 := hb2.frozen; have HGOT : Hid _ := hstp; have HKP : Hid _ := hkp2; clear hown' hgrow hblk hb1 hb2 hgot' hkp hstp hkp2)
        exact ⟨HKP.out.weaker (fun _ t => t) (by omega), by simp; omega, _, HGOT.out⟩
    case done =>
      rintro D X ⟨hl, v, hg⟩ hK h1 h2
      have hbk : ∀ k, R.has k → k < X.heap.size := fun k hk => by have := (hRb k hk).2; have := hg.got.box.lt; omega
      have hdl : (fl (d.dirty d.n)).length ≤ 1000 := by have := dirty_len d d.n; have := g.n_le; omega
      have HBK : Hid _ := hbk
      have HG : Hid _ := hg
      have HK' : Hid _ := hK
      have hDz : D < X.heap.size := (Array.getElem?_eq_some_iff.1 hK).1
      clear hbk hg hK hgot0 e0 e1 e2 e3 hix0 hbl0 hix hRb hbel
      have hd2 : decide (2 * (k : Int) < ((fl (d.dirty d.n)).length : Int)) = false := by rw [fl_len]; simp; omega
      gi_wp2_with (refine ⟨trivial, rfl, ?_⟩; first
        | (gi_at_call 11; refine (callsIn_wide.2 (model_any d g R X HG.out.got.ix HBK.out)).mono ?_; rintro e w5 ⟨v2, rfl, hm⟩; obtain ⟨a2, c2, rfl⟩ := own_form hm.own; have hbc5 := (hm.bel.cell (p := ⟨w1.heap.size + 1, 0, none⟩) HG.out.got.box.lt).trans HG.out.got.box.cell; have htc5 := (hm.bel.cell (p := ⟨w.heap.size, 0, none⟩) HG.out.top.lt).trans HG.out.top.cell; have HM : Hid _ := hm; clear hm)
        | (gi_at_call 10; refine (callsIn_wide.2 (eq_rows _ w1.heap.size X.heap.size v _ (d.dirty d.n) (own_below HG.out.got.own HM.out.bel (Nat.le_refl _)) HM.out.own hdl)).mono ?_; rintro e w6 ⟨rfl, hd6⟩))
      have hK6 : w6.heap[D]? = _ := (congrArg (·[D]?) hd6.heap).trans ((HM.out.bel.block D hDz).trans HK'.out)
      refine ⟨by simp, .inl ⟨_, _, rfl, run_takeDeferred hK6, ?_⟩⟩
      refine ⟨_, results_tmp rfl _ _ _, rfl, ?_⟩
      exact ((HG.out.got.bel.trans (HM.out.bel.mono HG.out.got.bel.size)).trans (hd6.below _)).trans (belowK_b (w := w) (Nat.le_refl _) _ D _ _ (by omega) hK6 rfl rfl)
    case stop =>
      rintro D c ys X hp ⟨rfl, pre, x, v, rfl, hl, hg⟩ hK h1 h2
      have hbk : ∀ k, R.has k → k < X.heap.size := fun k hk => by have := (hRb k hk).2; have := hg.got.box.lt; omega
      have hdl : (fl (d.dirty d.n)).length ≤ 1000 := by have := dirty_len d d.n; have := g.n_le; omega
      have hlt : k < (d.dirty d.n).length := by have := hp.length_le; simp at this; omega
      have HBK : Hid _ := hbk
      have HG : Hid _ := hg
      have HK' : Hid _ := hK
      have hDz : D < X.heap.size := (Array.getElem?_eq_some_iff.1 hK).1
      have HP : Hid _ := hp
      clear hbk hg hK hgot0 e0 e1 e2 e3 hix0 hbl0 hix hRb hbel hp
      have hd2 : decide (2 * (k : Int) < ((fl (d.dirty d.n)).length : Int)) = true := by rw [fl_len]; simp; omega
      gi_wp2_with (refine ⟨trivial, rfl, ?_⟩; first
        | (gi_at_call 11; refine (callsIn_wide.2 (model_any d g R X HG.out.got.ix HBK.out)).mono ?_; rintro e w5 ⟨v2, rfl, hm⟩; obtain ⟨g2, c2, rfl, hc2⟩ := own_some hm.own (by rw [fl_len]; omega); have hbc5 := (hm.bel.cell (p := ⟨w1.heap.size + 1, 0, none⟩) HG.out.got.box.lt).trans HG.out.got.box.cell; have htc5 := (hm.bel.cell (p := ⟨w.heap.size, 0, none⟩) HG.out.top.lt).trans HG.out.top.cell; have HM : Hid _ := hm; clear hm; have h2c : 0 ≤ 2 * (k : Int) ∧ 2 * (k : Int) ≤ (c2 : Int) := (by rw [fl_len] at hc2; omega))
        | (gi_at_call 10; refine (callsIn_wide.2 (eq_stop _ w1.heap.size X.heap.size v g2 _ c2 c2 (2 * k) pre (d.dirty d.n) (own_below HG.out.got.own HM.out.bel (Nat.le_refl _)) HM.out.own ((List.prefix_append _ _).trans HP.out) hdl (by rw [fl_len]; omega))).mono ?_; rintro e w6 ⟨rfl, hd6⟩))
      have hK6 : w6.heap[D]? = _ := (congrArg (·[D]?) hd6.heap).trans ((HM.out.bel.block D hDz).trans HK'.out)
      refine ⟨by simp, .inl ⟨_, _, rfl, run_takeDeferred hK6, ?_⟩⟩
      refine ⟨_, results_tmp rfl _ _ _, rfl, ?_⟩
      exact ((HG.out.got.bel.trans (HM.out.bel.mono HG.out.got.bel.size)).trans (hd6.below _)).trans (belowK_b (w := w) (Nat.le_refl _) _ D _ _ (by omega) hK6 rfl rfl)
  · gi_wp2
    exact ⟨_, results_tmp rfl _ _ _, rfl, Below.refl _ _⟩
end Go.Proofs.Ybulkipk
