/-
  'LawS0465AModel', walked (function 3).
-/
import Derived.Test.YbulkipkGot
import Derived.Deep.RegionWith
namespace Go.Proofs.Ybulkipk
open Go.RowKit Go.Shelf
attribute [local go_sem] Oper.semAt_some
set_option maxRecDepth 100000 in
set_option maxHeartbeats 1000000 in
theorem amodel (w : World) (a : Option Addr) (len cap : Nat) (hb : len ≤ 300 → Calls Yba.prog 8 #[.slice a len cap] w (Built w len)) :
    CallsIn Fence.wide 0 Yba.prog 3 #[.slice a len cap] w fun e w' => e = .returned (.bool true) ∧ Below w.heap.size w w' := by
  have HB : Hid _ := hb
  clear hb
  refine callsIn_of_wp_marks Yba.func3 rfl trivial ?_ rfl
  simp only [Yba.ntmps3, List.size_toArray, List.length_cons, List.length_nil, Nat.reduceAdd, Nat.reduceSub, Array.replicate_succ, Array.replicate_zero, List.push_toArray, List.append_toArray, List.nil_append, List.cons_append]
  by_cases hlen : len ≤ 300
  · have hd : decide (300 < (len : Int)) = false := by simp; omega
    gi_wp2_with fail
    refine ⟨trivial, rfl, (callsIn_wide.2 (HB.out hlen)).mono ?_⟩
    rintro e w1 ⟨d, R, rfl, g, hn, hix, hbel, hRb⟩
    have HN : Hid _ := hn
    clear hn
    obtain ⟨i0, hi0, hz0, hz1, hz2⟩ := info_parts info3
    gi_wp2_with (refine ⟨trivial, rfl, ?_⟩; gi_at_call 9; refine (callsIn_wide.2 (dirtyReads_any _ _)).mono ?_; rintro e w' ⟨rfl, rfl⟩)
    obtain ⟨W0, hW0⟩ : ∃ W0 : World, (((w1.alloc (.cells #[] 3)).alloc (.cells #[.slice (some ⟨w1.heap.size, 0, none⟩) 0 0] 25)).alloc (.cells #[.pointer (some ⟨R.b, 0, none⟩)] 23)) = W0 := ⟨_, rfl⟩
    rw [hW0]
    have hsz : W0.heap.size = w1.heap.size + 3 := by rw [← hW0]; simp
    have e0 : W0.heap[w1.heap.size]? = some (.cells #[] 3 (0, 0)) := by
      rw [← hW0, Below.heap_alloc _ _ _ (by simp; omega), Below.heap_alloc _ _ _ (by simp)]; exact World.alloc_heap_new w1 _
    have e1 : W0.heap[w1.heap.size + 1]? = some (.cells #[.slice (some ⟨w1.heap.size, 0, none⟩) 0 0] 25 (0, 0)) := by
      rw [← hW0, Below.heap_alloc _ _ _ (by simp)]
      have := World.alloc_heap_new (w1.alloc (.cells #[] 3)) (.cells #[.slice (some ⟨w1.heap.size, 0, none⟩) 0 0] 25)
      rwa [World.size_alloc] at this
    have e2 : W0.heap[w1.heap.size + 1 + 1]? = some (.cells #[.pointer (some ⟨R.b, 0, none⟩)] 23 (0, 0)) := by
      rw [← hW0]
      have := World.alloc_heap_new ((w1.alloc (.cells #[] 3)).alloc (.cells #[.slice (some ⟨w1.heap.size, 0, none⟩) 0 0] 25)) (.cells #[.pointer (some ⟨R.b, 0, none⟩)] 23)
      rwa [World.size_alloc, World.size_alloc] at this
    have hold : ∀ k, k < w1.heap.size → W0.heap[k]? = w1.heap[k]? := fun k hk => by
      rw [← hW0, Below.heap_alloc _ _ _ (by simp; omega), Below.heap_alloc _ _ _ (by simp; omega), Below.heap_alloc _ _ _ hk]
    have hbl0 : Below w.heap.size w W0 := by
      rw [← hW0]; exact ((hbel.alloc hbel.size _).alloc (by have := hbel.size; simp; omega) _).alloc (by have := hbel.size; simp; omega) _
    have hix0 : IxAt d R W0 := hix.of_same (fun k hk => hold k (hRb k hk).2)
    clear hW0
    have hs1 := hbel.size
    have hgot0 : Got w d R w1.heap.size (w1.heap.size + 1) (w1.heap.size + 12) [] (.slice (some ⟨w1.heap.size, 0, none⟩) 0 0) W0 :=
      ⟨e1, ⟨rfl, .inr ⟨w1.heap.size, 0, #[], rfl, Nat.le_refl _, e0, Nat.le_refl _, Nat.zero_le _, rfl, rfl⟩⟩, fun k hk => by simp [Value.ownBlock] at hk; exact .inl hk.symm, hix0, hbl0⟩
    refine range_law (gf := 16) (lb := #[.pointer (some ⟨w1.heap.size + 1 + 1, 0, none⟩)]) rfl (enters_of Yba.func16 (by kernel_rfl) rfl) (fun k => k = w1.heap.size ∨ k = w1.heap.size + 1) (fun k t => by omega) 7 (d.dirty d.n) ?hseq rfl
      (fun pre X => ∃ v, Got w d R w1.heap.size (w1.heap.size + 1) (w1.heap.size + 12) pre v X) (fun _ _ _ => False) ?hI (fun _ _ _ _ h _ => h) ⟨_, hgot0⟩
      (fun x => { tmps := #[.slice a len cap, undef, .bool false, .pointer (some ⟨R.b, 0, none⟩), .pointer (some ⟨w1.heap.size + 1, 0, none⟩), .int .i64 (x.1 : Int), .int .i64 (x.2 : Int), .slice a len cap, .int .i64 (len : Int), .bool false, .slice a len cap, .pointer (some ⟨R.b, 0, none⟩), .slice (some ⟨w1.heap.size, 0, none⟩) 0 0, .pointer (some ⟨R.b, 0, none⟩), .func (.func 16) #[] #[.pointer (some ⟨w1.heap.size + 1 + 1, 0, none⟩)], .int .i64 (x.1 : Int), .int .i64 (x.2 : Int), undef, undef, undef, undef, undef, undef, undef, undef, undef], defers := [] }) ?assign ?body ?done ?stop
    case hseq =>
      intro W1 hb1 hz1
      refine dirty_iter d g R W1 (w1.heap.size + 1 + 1) ?_ (hix0.of_same (fun k hk => hb1.block k (by have := (hRb k hk).2; omega))) _ ?_ ?_
      · exact (cell_of_row _ _ _ _ _ _ ((hb1.block (w1.heap.size + 1 + 1) (by omega)).trans e2)).trans rfl
      · rintro k ((rfl | rfl) | rfl) <;> omega
      · rintro k (hk | rfl)
        · have := (hRb k hk).2
          exact ⟨fun t => by omega, by omega⟩
        · exact ⟨fun t => by omega, by omega⟩
    case hI =>
      rintro s X Y ⟨v, hg⟩ hm
      exact ⟨v, hg.moves hm (by omega) (by omega) (by omega) (by omega) (fun k hk => (hRb k hk).2)⟩
    case assign =>
      intro l' x X K hK
      dsimp only [encs]
      gi_wp2
      exact hK
    case body =>
      rintro l' pre ⟨xw, xp⟩ X ⟨v, hg⟩ hpre hz
      have hbc := hg.box.cell
      have hbf := hg.box.frozen
      have hbz := hg.box.lt
      have hpl : (fl pre).length ≤ 600 := by
        have h1 := dirty_len d d.n
        have h2 := hpre.length_le
        have h3 := g.n_le
        rw [fl_len] at h1 ⊢
        simp at h2
        omega
      have HG : Hid _ := hg
      clear hpre hg
      gi_wp2_with (gi_at_builtin; refine wpListIn_append_sharp _ rfl _ _ 25 rfl w1.heap.size 3 i0 (.int .i64 0) 1 8 Yba.underlying25 hi0 hz0 hz1 hz2 rfl (by decide) v (fl pre).length (fl pre) rfl (HG.out.own.alloc _) ⟨X.heap.size, 0, none⟩ 2 2 [.int .i64 (xw : Int), .int .i64 (xp : Int)] rfl rfl (two_new _ _ _ _) (by simp [Value.oneCell']) (by unfold maxLen; omega) (by omega) (by simp; omega) ?_; intro v' w2 hown' hgrow hblk; obtain ⟨g', cap', rfl⟩ := ownsRow_succ hown'; obtain ⟨hb1, hgot', hkp⟩ := HG.out.push (x := (xw, xp)) (by omega) (by omega) (by omega) (by omega) (fun k hk => (hRb k hk).2) hown' hgrow hblk; have hc1 := hb1.cell; have hf1 := hb1.frozen; have HGOT : Hid _ := hgot'; have HKP : Hid _ := hkp; clear hown' hgrow hblk hb1 hgot' hkp)
      exact ⟨HKP.out.weaker (fun _ t => t) (by omega), _, HGOT.out⟩
    case done =>
      rintro D X ⟨v, hg⟩ hK h1 h2
      have hbc := hg.box.cell
      have hbz := hg.box.lt
      have hbk : ∀ k, R.has k → k < X.drew.heap.size := fun k hk => by have := (hRb k hk).2; show k < X.heap.size; omega
      have hixd : IxAt d R X.drew := hg.ix.of_same (fun _ _ => rfl)
      have hDz : D < X.heap.size := (Array.getElem?_eq_some_iff.1 hK).1
      have hdl : (fl (d.dirty d.n)).length ≤ 1000 := by have := dirty_len d d.n; have := g.n_le; omega
      have hown5 : ∀ w5, Below X.drew.heap.size X.drew w5 → w5.ownsRow w1.heap.size 3 1 v (fl (d.dirty d.n)).length (fl (d.dirty d.n)) := fun w5 hb => own_below (X := X.drew) hg.own hb (Nat.le_refl _)
      have HO5 : Hid _ := hown5
      clear hown5
      have HBK : Hid _ := hbk
      have HIX : Hid _ := hixd
      have HG : Hid _ := hg
      have HK : Hid _ := hK
      clear hbk hixd hg hK hgot0 e0 e1 e2 hix0 hbl0 hix hRb hbel
      gi_wp2_with fail
      refine wpIn_mono (Q := fun e a' w6 => match e with | .normal => (∃ v2 t22 t23, Below X.heap.size X w6 ∧ a' = { tmps := #[.slice a len cap, undef, .bool true, .pointer (some ⟨R.b, 0, none⟩), .pointer (some ⟨w1.heap.size + 1, 0, none⟩), undef, undef, .slice a len cap, .int .i64 (len : Int), .bool false, .slice a len cap, .pointer (some ⟨R.b, 0, none⟩), .slice (some ⟨w1.heap.size, 0, none⟩) 0 0, .pointer (some ⟨R.b, 0, none⟩), .func (.func 16) #[] #[.pointer (some ⟨w1.heap.size + 1 + 1, 0, none⟩)], undef, undef, undef, undef, undef, undef, undef, t22, t23, v2, .bool true], defers := [{ target := Target.collected D, args := #[] }] }) | _ => False) (wpIn_wide.2 ?_) ?_
      · go_region_with (first
        | (go_at_call 11; refine (model_any d g R X.drew HIX.out HBK.out).mono ?_; rintro e w5 ⟨v2, rfl, hm⟩; have hbc5 : w5.cell? ⟨w1.heap.size + 1, 0, none⟩ = some v := (hm.bel.cell (p := ⟨w1.heap.size + 1, 0, none⟩) hbz).trans hbc; have HM : Hid _ := hm; clear hm)
        | (go_at_call 10; refine (eq_rows _ w1.heap.size X.drew.heap.size v _ (d.dirty d.n) (HO5.out _ HM.out.bel) HM.out.own hdl).mono ?_; rintro e w6 ⟨rfl, hd6⟩))
        all_goals exact ⟨_, _, _, ((⟨rfl, rfl, rfl, Nat.le_refl _, fun _ _ => rfl⟩ : Below X.heap.size X X.drew).trans HM.out.bel).trans (hd6.below _), rfl⟩
      · intro e a' w6 he
        cases e <;> first | exact he.elim | skip
        obtain ⟨v2, t22, t23, hb6, rfl⟩ := he
        have hK6 := (hb6.block D hDz).trans HK.out
        clear HK HIX HBK
        gi_wp2
        refine ⟨by simp, .inl ⟨_, _, rfl, run_takeDeferred hK6, ?_⟩⟩
        refine ⟨_, results_tmp rfl _ _ _, rfl, ?_⟩
        exact (HG.out.bel.trans (hb6.mono HG.out.bel.size)).trans (belowK_b (w := w) (Nat.le_refl _) _ D _ _ (by omega) hK6 rfl rfl)
    case stop =>
      rintro D c pre X hp h hK h1 h2
      exact h.elim
  · gi_wp2
    exact ⟨_, results_tmp rfl _ _ _, rfl, Below.refl _ _⟩
end Go.Proofs.Ybulkipk
