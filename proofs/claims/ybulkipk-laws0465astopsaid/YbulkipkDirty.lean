/-
  dirtyReads$1 (function 16) has its contract as an iterator: it hands on d.dirty d.n. And the two makers (9, 17).
-/
import Derived.Test.YbulkipkRfo

namespace Go.Proofs.Ybulkipk
open Go.RowKit Go.Shelf
attribute [local go_sem] Oper.semAt_some
theorem others_any (p : Option Addr) (w : World) : Calls Yba.prog 17 #[.pointer p] w fun e w' => e = .returned (.func (.func 20) #[] #[.pointer (some ⟨w.heap.size, 0, none⟩)]) ∧ w' = w.alloc (.cells #[.pointer p] 23) := by
  go_enter Yba.func17, Yba.ntmps17
  go_wp2
  go_ret
  exact ⟨rfl, rfl⟩
theorem dirtyReads_any (p : Option Addr) (w : World) : Calls Yba.prog 9 #[.pointer p] w fun e w' => e = .returned (.func (.func 16) #[] #[.pointer (some ⟨w.heap.size, 0, none⟩)]) ∧ w' = w.alloc (.cells #[.pointer p] 23) := by
  go_enter Yba.func9, Yba.ntmps9
  go_wp2
  go_ret
  exact ⟨rfl, rfl⟩
theorem rfo_mem {d : Dat} : ∀ {n : Nat} {x : Nat × Nat}, x ∈ d.rfo n → x.1 < x.2 ∧ x.2 < n
  | 0, x, h => by simp [Dat.rfo] at h
  | n + 1, x, h => by
    rcases List.mem_append.1 h with h | h
    · have := rfo_mem h; omega
    · unfold Dat.pairAt at h
      split at h
      · split at h
        · rename_i w hw
          split at h
          · simp at h
          · simp at h
            subst h
            exact ⟨(Dat.srch_lt hw).1, by simp⟩
        · simp at h
      · simp at h
theorem mem_of_prefix {α : Type} {pre xs : List α} {x : α} (h : pre ++ [x] <+: xs) : x ∈ xs := by
  obtain ⟨t, rfl⟩ := h
  simp
theorem filter_prefix {α : Type} (f : α → Bool) {pre xs : List α} (h : pre <+: xs) : pre.filter f <+: xs.filter f := by
  obtain ⟨t, rfl⟩ := h
  rw [List.filter_append]
  exact ⟨_, rfl⟩
set_option maxRecDepth 100000 in
set_option maxHeartbeats 1000000 in
theorem dirty_iter (d : Dat) (g : d.Good) (R : Blk) (W : World) (bx : Nat) (hbx : W.cell? ⟨bx, 0, none⟩ = some (.pointer (some ⟨R.b, 0, none⟩))) (h : IxAt d R W) (T : Nat → Prop) (hT : ∀ k, T k → k < W.heap.size)
    (hR : ∀ k, R.has k ∨ k = bx → ¬ T k ∧ k < W.heap.size) : Iter Yba.prog 16 #[.pointer (some ⟨bx, 0, none⟩)] 7 T (d.dirty d.n) W := by
  intro l J Jx hJ hJx hY h0
  have HJ : Hid _ := hJ
  have HJx : Hid _ := hJx
  have HY : Hid _ := hY
  have HT : Hid _ := hT
  have HR : Hid _ := hR
  have H0 : Hid _ := h0
  have hb1 : R.b < W.heap.size := (hR _ (.inl (.inl rfl))).2
  have hb2 : bx < W.heap.size := (hR _ (.inr rfl)).2
  clear hJ hJx hY hT hR h0
  refine callsIn_of_wp_marks Yba.func16 rfl trivial ?_ rfl
  simp only [Yba.ntmps16, List.size_toArray, List.length_cons, List.length_nil, Nat.reduceAdd, Nat.reduceSub, Array.replicate_succ, Array.replicate_zero, List.push_toArray, List.append_toArray, List.nil_append, List.cons_append]
  gi_wp2_with (refine ⟨trivial, rfl, ?_⟩; gi_at_call 17; refine (callsIn_wide.2 (others_any _ _)).mono ?_; rintro e w' ⟨rfl, rfl⟩)
  obtain ⟨W0, hW0⟩ : ∃ W0 : World, ((W.alloc (.cells #[.func (.yield l) #[] #[]] 79)).alloc (.cells #[.pointer (some ⟨R.b, 0, none⟩)] 23)) = W0 := ⟨_, rfl⟩
  rw [hW0]
  have hsz : W0.heap.size = W.heap.size + 2 := by rw [← hW0]; simp
  have hyb : W0.heap[W.heap.size]? = some (.cells #[.func (.yield l) #[] #[]] 79 (0, 0)) := by
    rw [← hW0, Below.heap_alloc _ _ _ (by simp)]; exact World.alloc_heap_new W _
  have hob : W0.heap[W.heap.size + 1]? = some (.cells #[.pointer (some ⟨R.b, 0, none⟩)] 23 (0, 0)) := by
    rw [← hW0]; have := World.alloc_heap_new (W.alloc (.cells #[.func (.yield l) #[] #[]] 79)) (.cells #[.pointer (some ⟨R.b, 0, none⟩)] 23); rwa [World.size_alloc] at this
  have hold : ∀ k, k < W.heap.size → W0.heap[k]? = W.heap[k]? := fun k hk => by
    rw [← hW0, Below.heap_alloc _ _ _ (by simp; omega), Below.heap_alloc _ _ _ hk]
  have hmv : Moves W.heap.size 7 W W0 := by rw [← hW0]; exact (Moves.alloc _ _ _ _).trans (Moves.alloc _ _ _ _)
  have hix0 : IxAt d R W0 := h.of_same (fun k hk => hold k (HR.out k (.inl hk)).2)
  have hbx0 : W0.cell? ⟨bx, 0, none⟩ = some (.pointer (some ⟨R.b, 0, none⟩)) := (World.cell?_of_block (w := W) (a := ⟨bx, 0, none⟩) (hold bx hb2)).trans hbx
  clear hW0
  have keep : ∀ {X Y : World}, Moves W0.heap.size (2 + 3) X Y → ∀ k, k < W.heap.size + 2 → k < X.heap.size → Y.heap[k]? = X.heap[k]? := fun hm k hk hk2 => hm.block k hk2 (by omega)
  refine range_law (gf := 20) (lb := #[.pointer (some ⟨W.heap.size + 1, 0, none⟩)]) rfl (enters_of Yba.func20 (by kernel_rfl) rfl) T (fun k t => by have := HT.out k t; omega) 3 (d.rfo d.n) ?hseq rfl
    (fun pre X => J (pre.filter d.dirtyB) X ∧ X.heap[W.heap.size]? = some (.cells #[.func (.yield l) #[] #[]] 79 (0, 0)) ∧ X.cell? ⟨bx, 0, none⟩ = some (.pointer (some ⟨R.b, 0, none⟩)) ∧ IxAt d R X)
    (fun c pre X => c = .ret ∧ Jx (pre.filter d.dirtyB) X) ?hI ?hIx ⟨HJ.out _ _ _ H0.out hmv, hyb, hbx0, hix0⟩
    (fun x => { tmps := #[.func (.yield l) #[] #[], .pointer (some ⟨bx, 0, none⟩), .pointer (some ⟨W.heap.size, 0, none⟩), .int .i64 (x.1 : Int), .int .i64 (x.2 : Int), .pointer (some ⟨R.b, 0, none⟩), .func (.func 20) #[] #[.pointer (some ⟨W.heap.size + 1, 0, none⟩)], .int .i64 (x.1 : Int), .int .i64 (x.2 : Int), undef, undef, undef, undef, undef, undef, undef, undef, undef, undef, undef], defers := [] }) ?assign ?body ?done ?stop
  case hseq =>
    intro W1 hb hs1
    refine rfo_iter d g R W1 (W.heap.size + 1) ?_ (hix0.of_same (fun k hk => hb.block k (by have := (HR.out k (.inl hk)).2; omega))) _ ?_ ?_
    · have := (hb.block (W.heap.size + 1) (by omega)).trans hob
      exact (cell_of_row _ _ _ _ _ _ this).trans rfl
    · rintro k (t | rfl)
      · have := HT.out k t; omega
      · omega
    · rintro k (hk | rfl)
      · obtain ⟨a, b⟩ := HR.out k (.inl hk)
        exact ⟨fun t => t.elim a (fun e => by omega), by omega⟩
      · exact ⟨fun t => t.elim (fun t => by have := HT.out _ t; omega) (fun e => by omega), by omega⟩
  case hI =>
    rintro s X Y ⟨a, b, c, e⟩ hm
    refine ⟨HJ.out _ _ _ a (hm.wider (by omega) (by omega)), (keep hm _ (by omega) (Array.getElem?_eq_some_iff.1 b).1).trans b, ?_, ?_⟩
    · exact (World.cell?_of_block (w := X) (a := ⟨bx, 0, none⟩) (keep hm bx (by omega) (block_lt_of_cell c))).trans c
    · refine e.of_same (fun k hk => keep hm k (by have := (HR.out k (.inl hk)).2; omega) ?_)
      have := (Array.getElem?_eq_some_iff.1 b).1
      have := (HR.out k (.inl hk)).2
      omega
  case hIx =>
    rintro c s X Y ⟨a, b⟩ hm
    exact ⟨a, HJx.out _ _ _ b (hm.wider (by omega) (by omega))⟩
  case assign =>
    intro l' x X K hK
    dsimp only [encs]
    gi_wp2
    exact hK
  case body =>
    rintro l' pre ⟨xw, xp⟩ X ⟨hJa, hyb', hbx', hix'⟩ hpre hz
    obtain ⟨x1, x2⟩ := rfo_mem (mem_of_prefix hpre)
    simp only at x1 x2
    have hq : xw < d.n := by omega
    have hyc : X.cell? ⟨W.heap.size, 0, none⟩ = some (.func (.yield l) #[] #[]) := (cell_of_row _ _ _ _ _ _ hyb').trans rfl
    have HJa : Hid _ := hJa
    have HYB : Hid _ := hyb'
    have HPRE : Hid _ := hpre
    clear hJa hyb' hpre
    cases hdb : d.dirtyB (xw, xp) with
    | false =>
      have HD : Hid _ := hdb
      clear hdb
      gi_wp2_with (refine ⟨trivial, rfl, ?_⟩; gi_at_call 18; refine (CallsIn.inRound l' (callsIn_wide.2 (readsDirty_any d g R _ hix' xw xp hq (by omega)))).mono ?_; rw [HD.out]; rintro e w' ⟨rfl, rfl⟩)
      refine ⟨fun _ h => (by cases h), ?_⟩
      gi_wp2
      exact ⟨Keeps.refl _ _ _, by show J ((pre ++ [(xw, xp)]).filter d.dirtyB) _; rw [List.filter_append, List.filter_cons_of_neg (by rw [HD.out]; simp)]; simpa using HJa.out, HYB.out, hbx', hix'⟩
    | true =>
      have HD : Hid _ := hdb
      clear hdb
      have hfl : Hid ((pre ++ [(xw, xp)]).filter d.dirtyB = pre.filter d.dirtyB ++ [(xw, xp)]) := by
        show (pre ++ [(xw, xp)]).filter d.dirtyB = pre.filter d.dirtyB ++ [(xw, xp)]
        rw [List.filter_append, List.filter_cons_of_pos HD.out]; rfl
      obtain ⟨fn, tmps, assign, body, hy, hRd⟩ := HY.out (pre.filter d.dirtyB) (xw, xp) X HJa.out (by rw [← hfl.out]; exact filter_prefix _ HPRE.out) (by omega)
      dsimp only [encs] at hy
      gi_wp2_with (refine ⟨trivial, rfl, ?_⟩; gi_at_call 18; refine (CallsIn.inRound l' (callsIn_wide.2 (readsDirty_any d g R _ hix' xw xp hq (by omega)))).mono ?_; rw [HD.out]; rintro e w' ⟨rfl, rfl⟩)
      refine ⟨rfl, hRd.mono ?_⟩
      have kT : ∀ k, (R.has k ∨ k = bx ∨ k = W.heap.size) → ¬ T k ∧ k < W.heap.size + 7 := fun k hk => by
        rcases hk with a | a | a
        · have := HR.out k (.inl a); exact ⟨this.1, by omega⟩
        · have := HR.out k (.inr a); exact ⟨this.1, by omega⟩
        · exact ⟨fun t => by have := HT.out k t; omega, by omega⟩
      have KT : Hid _ := kT
      clear kT
      rintro e W3 (⟨rfl, hJ3, hk3⟩ | ⟨rfl, hJx3, hk3⟩)
      · have HJ3 : Hid _ := hJ3
        have HK3 : Hid _ := hk3
        clear hJ3 hk3 hy
        gi_wp2
        refine ⟨HK3.out.weaker (fun _ t => t) (by omega), ?_, (HK3.out.block _ (KT.out _ (.inr (.inr rfl))).2 (KT.out _ (.inr (.inr rfl))).1).trans HYB.out, (World.cell?_of_block (a := ⟨bx, 0, none⟩) (HK3.out.block _ (KT.out _ (.inr (.inl rfl))).2 (KT.out _ (.inr (.inl rfl))).1)).trans hbx',
          hix'.of_same (fun k hk => HK3.out.block _ (KT.out _ (.inl hk)).2 (KT.out _ (.inl hk)).1)⟩
        show J ((pre ++ [(xw, xp)]).filter d.dirtyB) _
        rw [hfl.out]
        exact HJ3.out
      · have HJ3 : Hid _ := hJx3
        have HK3 : Hid _ := hk3
        clear hJx3 hk3 hy
        gi_wp2
        refine ⟨HK3.out.weaker (fun _ t => t) (by omega), rfl, ?_⟩
        show Jx ((pre ++ [(xw, xp)]).filter d.dirtyB) _
        rw [hfl.out]
        exact HJ3.out
  case done =>
    rintro D X ⟨a, b, c, e⟩ hK h1 h2
    gi_wp2
    refine ⟨by simp, .inl ⟨_, _, rfl, run_takeDeferred hK, ?_⟩⟩
    exact ⟨_, results_none rfl _ _ _, ⟨_, rfl⟩, .inl (HJ.out _ _ _ a (Moves.putObj _ _ _ (by omega) (by omega)))⟩
  case stop =>
    rintro D c pre X hp ⟨rfl, a⟩ hK h1 h2
    gi_wp2
    refine ⟨by simp, .inl ⟨_, _, rfl, run_takeDeferred hK, ?_⟩⟩
    exact ⟨_, results_none rfl _ _ _, ⟨_, rfl⟩, .inr ⟨_, filter_prefix _ hp, HJx.out _ _ _ a (Moves.putObj _ _ _ (by omega) (by omega))⟩⟩
end Go.Proofs.Ybulkipk
