import Derived.Test.Qxb6616992aDoorFrm
namespace Go.Proofs.Qxb6616992aDoor
open Go.RowKit

/-- the bucket has taken its first entry -/
def Placed (w : World) (bb : Nat) (es : List Value) (w' : World) : Prop :=
  BX bb w w' ∧ w'.there bb 0 6 ∧ ∃ g cap : Nat, w.heap.size ≤ g ∧ w'.cell? ⟨bb, 0, none⟩ = some (.slice (some ⟨g, 0, none⟩) 1 cap) ∧ w'.rangeAt g 0 es ∧ w'.there g 0 28

theorem placed_of {w W w5 : World} {bb g cap : Nat} {es : List Value} {v2 v3 v4 : Value} (hx : BX bb w W) (hk : BW W w5) (hor : w5.rangeAt g 0 es ∧ w5.there g 0 28) (hth : w5.there bb 0 6) (hg : w.heap.size ≤ g) (hgb : g ≠ bb) :
    Placed w bb es ((((w5.setCell ⟨bb, 0, none⟩ (.slice (some ⟨g, 0, none⟩) 1 cap)).setCell ⟨bb, 2, none⟩ v2).setCell ⟨bb, 3, none⟩ v3).setCell ⟨bb, 4, none⟩ v4) := by
  have h5 : BX bb w5 ((((w5.setCell ⟨bb, 0, none⟩ (.slice (some ⟨g, 0, none⟩) 1 cap)).setCell ⟨bb, 2, none⟩ v2).setCell ⟨bb, 3, none⟩ v3).setCell ⟨bb, 4, none⟩ v4) :=
    (BX.set _ bb 0 _).then ((BX.set _ bb 2 _).then ((BX.set _ bb 3 _).then (BX.set _ bb 4 _)))
  refine ⟨hx.then ((hk.bx bb).then h5), there_setCell (there_setCell (there_setCell (there_setCell hth _ _) _ _) _ _) _ _, g, cap, hg, ?_, h5.range hgb hor.1, h5.there hgb hor.2⟩
  obtain ⟨u, hu⟩ := Option.isSome_iff_exists.1 (hth 0 (by omega)).1
  rw [Nat.zero_add] at hu
  rw [World.cell?_setCell_other _ _ _ _ (by simp), World.cell?_setCell_other _ _ _ _ (by simp), World.cell?_setCell_other _ _ _ _ (by simp), World.cell?_setCell_same _ _ _ hu]

set_option linter.unusedSimpArgs false in
set_option maxRecDepth 100000 in
set_option maxHeartbeats 4000000 in
theorem place_first (t bb : Nat) (own id : List Int) (k : Int) (l : Int) (z : Addr) (p t1 t2 : Int) (w : World) (hT : Tab w t bb own k) (hid : id.length = 20) (hk : 1 ≤ k)
    (h0 : w.cell? ⟨bb, 0, none⟩ = some (.slice none 0 0)) (h1 : w.cell? ⟨bb, 1, none⟩ = some (.slice none 0 0)) (hth : w.there bb 0 6) :
    Calls Tryd.prog 20 #[.pointer (some ⟨t, 0, none⟩), .agg (C id ++ ER l z p t1 t2 0).toArray, .agg #[.int .u64 t1, .int .i64 t2, .pointer none]] w fun e w' => e = .returned (.bool true) ∧ Placed w bb (C id ++ ER l z p t1 t2 0) w' := by
  have hu := Tryd.underlying27
  have hi := size27 hid
  have HB : Hid (∀ w, (Instr.buildSlice 53 1 #[(0, .agg (C id ++ ER l z p t1 t2 0).toArray)]).run Tryd.prog w = .ok (.slice (some ⟨w.heap.size, 0, none⟩) 1 1) (w.alloc (.cells (C id ++ ER l z p t1 t2 0).toArray 66))) := bs53 id hid l z p t1 t2 0
  have hlen : (C id ++ ER l z p t1 t2 0).length = 28 := by rw [List.length_append, C_len, hid]; rfl
  have H1 : Hid (∀ v ∈ C id ++ ER l z p t1 t2 0, v.oneCell' = true) := by
    intro v hv
    rcases List.mem_append.1 hv with hv | hv
    · exact C_one id v hv
    · have hE : ∀ v ∈ ER l z p t1 t2 0, v.oneCell' = true := by unfold ER AP; simp [Value.oneCell']
      exact hE v hv
  have r1 := range_left (range_new w (C id ++ ER l z p t1 t2 0) 66)
  have r0 := range_new w (C id ++ ER l z p t1 t2 0) 66
  have hb1 := BW.new w (.cells (C id ++ ER l z p t1 t2 0).toArray 66)
  generalize C id ++ ER l z p t1 t2 0 = es at r1 r0 hb1 HB hlen H1 ⊢
  have hb2 := BW.new (w.alloc (.cells es.toArray 66)) (.cells #[.int .u64 t1, .int .i64 t2, .pointer none] 46)
  have hR : ∀ w', BW ((w.alloc (.cells es.toArray 66)).alloc (.cells #[.int .u64 t1, .int .i64 t2, .pointer none] 46)) w' → w'.rangeAt w.heap.size 0 (C id) := fun w' h => h.range (hb2.range r1)
  have h18 : ∀ w', BW ((w.alloc (.cells es.toArray 66)).alloc (.cells #[.int .u64 t1, .int .i64 t2, .pointer none] 46)) w' → Calls Tryd.prog 18 #[.pointer (some ⟨t, 0, none⟩), .agg (C id).toArray] w' fun e w'' => e = .returned (.int .i64 0) ∧ BW ((w.alloc (.cells es.toArray 66)).alloc (.cells #[.int .u64 t1, .int .i64 t2, .pointer none] 46)) w'' :=
    fun w' h => (bucket_any t bb own id k w' (h.tab (hb2.tab (hb1.tab hT))) hid).mono (fun e w'' ⟨he, hb⟩ => ⟨he, h.then (BW.of hb)⟩)
  have hw0 := BW.self ((w.alloc (.cells es.toArray 66)).alloc (.cells #[.int .u64 t1, .int .i64 t2, .pointer none] 46))
  go_enter Tryd.func20, Tryd.ntmps20
  go_wp2_with (first | (with_reducible refine wpList_load_mid rfl _ _ rfl _ _ rfl _ _ (hR _ (by assumption)) hu rfl hi ?_) | (go_at_call 18; refine (h18 _ (by assumption)).mono ?_; rintro e w1 ⟨rfl, hw1⟩; clear hw0))
  have hbw : BW w w1 := hb1.then (hb2.then hw1)
  have c21 := hbw.cell hT.bks
  have c20 := hbw.cell hT.k
  have cb0 := hbw.cell h0
  have cb1 := hbw.cell h1
  have th := hbw.there hth
  have rq := hw1.range (hb2.range r0)
  have tq := hw1.range (range_new (w.alloc (.cells es.toArray 66)) [.int .u64 t1, .int .i64 t2, .pointer none] 46)
  have hlt := World.block_lt_of_cell? w _ h0
  have hs := hw1.out.size
  clear hT h0 h1 hth h18 hR r1 r0 hb1 hb2 hw1
  have e1 : (w.alloc (.cells es.toArray 66)).heap.size = w.heap.size + 1 := by simp
  have e2 : ((w.alloc (.cells es.toArray 66)).alloc (.cells #[.int .u64 t1, .int .i64 t2, .pointer none] 46)).heap.size = w.heap.size + 2 := by simp
  rw [e1] at tq
  rw [e2] at hs
  clear e1 e2
  have q0 := tq 0 _ rfl
  have q1 := tq 1 _ rfl
  have q2 := tq 2 _ rfl
  have f1 := (th 1 (by omega)).2
  have f0 := (th 0 (by omega)).2
  have f2 := (th 2 (by omega)).2
  have f3 := (th 3 (by omega)).2
  have f4 := (th 4 (by omega)).2
  have hk0 : ¬ (0 : Int) = k := by omega
  have TH : Hid (w1.there bb 0 6) := th
  have RQ : Hid (w1.rangeAt w.heap.size 0 es) := rq
  clear tq th rq
  go_loopw [7] (fun i wr => i = .int .i64 0 ∧ wr = w1) (fun _ _ => 0)
  case atStart => exact ⟨rfl, rfl⟩
  case round =>
    obtain ⟨rfl, rfl⟩ := hrel
    go_wp2
    go_quiet (fail)
    generalize nq = n0
    go_wp2_with (first | (go_at_call 34; refine (del_none _ _).mono ?_; rintro e w2 ⟨rfl, rfl⟩) | (go_at_call 31; refine (idx_none _ _).mono ?_; rintro e w2 ⟨rfl, rfl⟩))
    have hk1 : (0 : Int) < k := by omega
    go_quiet (fail)
    go_wp2_with fail
    have W0 : (((wr.drewN n0).setCell ⟨bb, 1, none⟩ (.slice none 0 0)).drewN nq).cell? ⟨bb, 0, none⟩ = some (.slice none 0 0) := by simp [World.cell?_setCell_other, cb0]
    have hbx : BX bb wr (((wr.drewN n0).setCell ⟨bb, 1, none⟩ (.slice none 0 0)).drewN nq) :=
      ((BW.of (below_drewN (Below.refl _ _) n0)).bx bb).then ((BX.set _ bb 1 _).then ((BW.of (below_drewN (Below.refl _ _) nq)).bx bb))
    have hth : (((wr.drewN n0).setCell ⟨bb, 1, none⟩ (.slice none 0 0)).drewN nq).there bb 0 6 :=
      (BW.of (below_drewN (Below.refl _ _) nq)).there (there_setCell ((BW.of (below_drewN (Below.refl _ _) n0)).there TH.out) _ _)
    generalize ((wr.drewN n0).setCell ⟨bb, 1, none⟩ (.slice none 0 0)).drewN nq = W at W0 hbx hth ⊢
    have hneq : w.heap.size ≠ bb := by omega
    have hneq1 : w.heap.size + 1 ≠ bb := by omega
    have rW := hbx.range hneq RQ.out
    have p0 := hbx.cell (a := ⟨w.heap.size + 1, 0, none⟩) hneq1 q0
    have p1 := hbx.cell (a := ⟨w.heap.size + 1, 1, none⟩) hneq1 q1
    have p2 := hbx.cell (a := ⟨w.heap.size + 1, 2, none⟩) hneq1 q2
    have HX : Hid (BX bb w W) := ((hbw.bx bb).then hbx)
    have HT : Hid (W.there bb 0 6) := hth
    have hsW : wr.heap.size ≤ W.heap.size := hbx.size
    have hltW : bb < W.heap.size := by omega
    obtain ⟨i66, hi66, hz66, hs66, hy66⟩ := info66
    clear q0 q1 q2 f0 f1 f2 f3 f4 hbx hth RQ TH c20 c21 cb0 cb1 hi hu
    refine wp_region_any (by kernel_rfl) ?_
    change wpAny _ _ _ _ _ _ _ (World.drew W)
    refine wpAny_take (i := 0) (v := ?_) rfl (by kernel_rfl) (by kernel_rfl) (by kernel_rfl) (fun _ _ _ h => h) (Or.inl ⟨by rfl, ?_⟩) ?_
    rotate_left
    · (intro w'; go_simp; with_reducible rfl)
    simp only [Act.put, List.getElem_toArray, List.getElem_cons_zero, List.getElem_cons_succ, List.setIfInBounds_toArray, List.set_cons_zero, List.set_cons_succ]
    refine wpAny_take (i := 1) (v := ?_) rfl (by kernel_rfl) (by kernel_rfl) (by kernel_rfl) (fun _ _ _ h => h) (Or.inl ⟨by rfl, ?_⟩) ?_
    rotate_left
    · (intro w'; go_simp; with_reducible rfl)
    simp only [Act.put, List.getElem_toArray, List.getElem_cons_zero, List.getElem_cons_succ, List.setIfInBounds_toArray, List.set_cons_zero, List.set_cons_succ]
    refine wpAny_take (i := 2) (v := ?_) rfl (by kernel_rfl) (by kernel_rfl) (by kernel_rfl) (fun _ _ _ h => h) (Or.inl ⟨by rfl, ?_⟩) ?_
    rotate_left
    · (intro w'; go_simp; with_reducible rfl)
    simp only [Act.put, List.getElem_toArray, List.getElem_cons_zero, List.getElem_cons_succ, List.setIfInBounds_toArray, List.set_cons_zero, List.set_cons_succ]
    refine wpAny_take (i := 3) (v := ?_) rfl (by kernel_rfl) (by kernel_rfl) (by kernel_rfl) (fun _ _ _ h => h) (Or.inl ⟨by rfl, ?_⟩) ?_
    rotate_left
    · (intro w'; go_simp; with_reducible rfl)
    simp only [Act.put, List.getElem_toArray, List.getElem_cons_zero, List.getElem_cons_succ, List.setIfInBounds_toArray, List.set_cons_zero, List.set_cons_succ]
    refine wpAny_ready (rs := [4, 5]) (by kernel_rfl) (by simp) ?_
    refine AllReady.cons rfl (fun K hK => ?_) (AllReady.cons rfl (fun K hK => ?_) AllReady.nil)
    · (go_simp; refine hK _ _ ?_; clear hK K)
      refine wpAny_ready (rs := [5]) (by kernel_rfl) (by simp) ?_
      refine AllReady.cons rfl (fun K hK => ?_) AllReady.nil
      (rw [if_pos (by rfl)]; refine wp_load_mid _ _ rfl _ _ rfl _ _ (by simpa using rW) Tryd.underlying66 rfl (size66 hlen) ?_; refine hK _ _ ?_; clear hK K; simp only [Act.put, List.getElem_toArray, List.getElem_cons_zero, List.getElem_cons_succ, List.setIfInBounds_toArray, List.set_cons_zero, List.set_cons_succ])
      refine wpAny_ready (rs := [6]) (by kernel_rfl) (by simp) ?_
      refine AllReady.cons rfl (fun K hK => ?_) AllReady.nil
      (rw [if_pos (by rfl)]; refine wp_bs _ es rfl rfl HB.out ?_; refine hK _ _ ?_; clear hK K; simp only [Act.put, List.getElem_toArray, List.getElem_cons_zero, List.getElem_cons_succ, List.setIfInBounds_toArray, List.set_cons_zero, List.set_cons_succ])
      refine wpAny_ready (rs := [7]) (by kernel_rfl) (by simp) ?_
      refine AllReady.cons rfl (fun K hK => ?_) AllReady.nil
      refine step_append_lies _ (by rfl) _ _ 53 (by rfl) 0 66 i66 (.agg EZ.toArray) 28 88 Tryd.underlying53 hi66 hz66 hs66 hy66 (by rfl) (by decide) (.slice none 0 0) 0 [] (by rfl) ⟨rfl, .inl ⟨rfl, rfl⟩⟩ ⟨W.heap.size, 0, none⟩ 1 1 es (by rfl) (by rw [hlen]) (World.news_of_block (cs := es.toArray) (t := 66) (fr := (0, 0)) (heap_alloc_new W.drew _)) H1.out (by decide) (by decide) (by decide) (Nat.zero_le _) _ rfl ?_
      intro g cap w5 hown hgrow hat hlt5
      refine hK _ _ ?_
      clear hK K
      simp only [Act.put, List.getElem_toArray, List.getElem_cons_zero, List.getElem_cons_succ, List.setIfInBounds_toArray, List.set_cons_zero, List.set_cons_succ]
      have hk5 : BW W w5 := grown_keep hgrow
      have hg5 : g = W.heap.size + 1 := by rcases hat with h | h; (exact absurd h (by simp [Value.ownBlock])); (rw [h]; simp)
      have hor := owns_range hown
      have HOR : Hid (w5.rangeAt g 0 es ∧ w5.there g 0 28) := hor
      have HK5 : Hid (BW W w5) := hk5
      have m0 := hk5.cell W0
      have p0' := hk5.cell p0
      have p1' := hk5.cell p1
      have p2' := hk5.cell p2
      have th5 := hk5.there HT.out
      have g0 := (th5 0 (by omega)).2
      have g2 := (th5 2 (by omega)).2
      have g3 := (th5 3 (by omega)).2
      have g4 := (th5 4 (by omega)).2
      have s2 := (th5 2 (by omega)).1
      have s3 := (th5 3 (by omega)).1
      have s4 := (th5 4 (by omega)).1
      obtain ⟨x2, s2⟩ := Option.isSome_iff_exists.1 s2
      obtain ⟨x3, s3⟩ := Option.isSome_iff_exists.1 s3
      obtain ⟨x4, s4⟩ := Option.isSome_iff_exists.1 s4
      rw [Nat.zero_add] at g0 g2 g3 g4 s2 s3 s4
      have TH5 : Hid (w5.there bb 0 6) := th5
      clear hor hk5 th5 hown hgrow hat W0 p0 p1 p2 rW
      refine wpAny_take (i := 8) (v := ?_) rfl (by kernel_rfl) (by kernel_rfl) (by kernel_rfl) (fun _ _ _ h => h) (Or.inl ⟨by rfl, ?_⟩) ?_
      rotate_left
      · (intro w'; go_simp; with_reducible rfl)
      simp only [Act.put, List.getElem_toArray, List.getElem_cons_zero, List.getElem_cons_succ, List.setIfInBounds_toArray, List.set_cons_zero, List.set_cons_succ]
      refine wpAny_take (i := 9) (v := ?_) rfl (by kernel_rfl) (by kernel_rfl) (by kernel_rfl) (fun _ _ _ h => h) (Or.inl ⟨by rfl, ?_⟩) ?_
      rotate_left
      · (intro w'; go_simp; with_reducible rfl)
      simp only [Act.put, List.getElem_toArray, List.getElem_cons_zero, List.getElem_cons_succ, List.setIfInBounds_toArray, List.set_cons_zero, List.set_cons_succ]
      refine wpAny_ready (rs := [10]) (by kernel_rfl) (by simp) ?_
      refine AllReady.cons rfl (fun K hK => ?_) AllReady.nil
      (go_simp; refine hK _ _ ?_; clear hK K)
      refine wpAny_done (by kernel_rfl) ?_ _
      go_wp2
      go_ret
      subst hg5
      exact ⟨rfl, placed_of HX.out HK5.out HOR.out TH5.out (by omega) (by omega)⟩
    · (rw [if_pos (by rfl)]; refine wp_load_mid _ _ rfl _ _ rfl _ _ (by simpa using rW) Tryd.underlying66 rfl (size66 hlen) ?_; refine hK _ _ ?_; clear hK K; simp only [Act.put, List.getElem_toArray, List.getElem_cons_zero, List.getElem_cons_succ, List.setIfInBounds_toArray, List.set_cons_zero, List.set_cons_succ])
      refine wpAny_ready (rs := [4, 6]) (by kernel_rfl) (by simp) ?_
      refine AllReady.cons rfl (fun K hK => ?_) (AllReady.cons rfl (fun K hK => ?_) AllReady.nil)
      · (go_simp; refine hK _ _ ?_; clear hK K)
        refine wpAny_ready (rs := [6]) (by kernel_rfl) (by simp) ?_
        refine AllReady.cons rfl (fun K hK => ?_) AllReady.nil
        (rw [if_pos (by rfl)]; refine wp_bs _ es rfl rfl HB.out ?_; refine hK _ _ ?_; clear hK K; simp only [Act.put, List.getElem_toArray, List.getElem_cons_zero, List.getElem_cons_succ, List.setIfInBounds_toArray, List.set_cons_zero, List.set_cons_succ])
        refine wpAny_ready (rs := [7]) (by kernel_rfl) (by simp) ?_
        refine AllReady.cons rfl (fun K hK => ?_) AllReady.nil
        refine step_append_lies _ (by rfl) _ _ 53 (by rfl) 0 66 i66 (.agg EZ.toArray) 28 88 Tryd.underlying53 hi66 hz66 hs66 hy66 (by rfl) (by decide) (.slice none 0 0) 0 [] (by rfl) ⟨rfl, .inl ⟨rfl, rfl⟩⟩ ⟨W.heap.size, 0, none⟩ 1 1 es (by rfl) (by rw [hlen]) (World.news_of_block (cs := es.toArray) (t := 66) (fr := (0, 0)) (heap_alloc_new W.drew _)) H1.out (by decide) (by decide) (by decide) (Nat.zero_le _) _ rfl ?_
        intro g cap w5 hown hgrow hat hlt5
        refine hK _ _ ?_
        clear hK K
        simp only [Act.put, List.getElem_toArray, List.getElem_cons_zero, List.getElem_cons_succ, List.setIfInBounds_toArray, List.set_cons_zero, List.set_cons_succ]
        have hk5 : BW W w5 := grown_keep hgrow
        have hg5 : g = W.heap.size + 1 := by rcases hat with h | h; (exact absurd h (by simp [Value.ownBlock])); (rw [h]; simp)
        have hor := owns_range hown
        have HOR : Hid (w5.rangeAt g 0 es ∧ w5.there g 0 28) := hor
        have HK5 : Hid (BW W w5) := hk5
        have m0 := hk5.cell W0
        have p0' := hk5.cell p0
        have p1' := hk5.cell p1
        have p2' := hk5.cell p2
        have th5 := hk5.there HT.out
        have g0 := (th5 0 (by omega)).2
        have g2 := (th5 2 (by omega)).2
        have g3 := (th5 3 (by omega)).2
        have g4 := (th5 4 (by omega)).2
        have s2 := (th5 2 (by omega)).1
        have s3 := (th5 3 (by omega)).1
        have s4 := (th5 4 (by omega)).1
        obtain ⟨x2, s2⟩ := Option.isSome_iff_exists.1 s2
        obtain ⟨x3, s3⟩ := Option.isSome_iff_exists.1 s3
        obtain ⟨x4, s4⟩ := Option.isSome_iff_exists.1 s4
        rw [Nat.zero_add] at g0 g2 g3 g4 s2 s3 s4
        have TH5 : Hid (w5.there bb 0 6) := th5
        clear hor hk5 th5 hown hgrow hat W0 p0 p1 p2 rW
        refine wpAny_take (i := 8) (v := ?_) rfl (by kernel_rfl) (by kernel_rfl) (by kernel_rfl) (fun _ _ _ h => h) (Or.inl ⟨by rfl, ?_⟩) ?_
        rotate_left
        · (intro w'; go_simp; with_reducible rfl)
        simp only [Act.put, List.getElem_toArray, List.getElem_cons_zero, List.getElem_cons_succ, List.setIfInBounds_toArray, List.set_cons_zero, List.set_cons_succ]
        refine wpAny_take (i := 9) (v := ?_) rfl (by kernel_rfl) (by kernel_rfl) (by kernel_rfl) (fun _ _ _ h => h) (Or.inl ⟨by rfl, ?_⟩) ?_
        rotate_left
        · (intro w'; go_simp; with_reducible rfl)
        simp only [Act.put, List.getElem_toArray, List.getElem_cons_zero, List.getElem_cons_succ, List.setIfInBounds_toArray, List.set_cons_zero, List.set_cons_succ]
        refine wpAny_ready (rs := [10]) (by kernel_rfl) (by simp) ?_
        refine AllReady.cons rfl (fun K hK => ?_) AllReady.nil
        (go_simp; refine hK _ _ ?_; clear hK K)
        refine wpAny_done (by kernel_rfl) ?_ _
        go_wp2
        go_ret
        subst hg5
        exact ⟨rfl, placed_of HX.out HK5.out HOR.out TH5.out (by omega) (by omega)⟩
      · (rw [if_pos (by rfl)]; refine wp_bs _ es rfl rfl HB.out ?_; refine hK _ _ ?_; clear hK K; simp only [Act.put, List.getElem_toArray, List.getElem_cons_zero, List.getElem_cons_succ, List.setIfInBounds_toArray, List.set_cons_zero, List.set_cons_succ])
        refine wpAny_ready (rs := [4]) (by kernel_rfl) (by simp) ?_
        refine AllReady.cons rfl (fun K hK => ?_) AllReady.nil
        (go_simp; refine hK _ _ ?_; clear hK K)
        refine wpAny_ready (rs := [7]) (by kernel_rfl) (by simp) ?_
        refine AllReady.cons rfl (fun K hK => ?_) AllReady.nil
        refine step_append_lies _ (by rfl) _ _ 53 (by rfl) 0 66 i66 (.agg EZ.toArray) 28 88 Tryd.underlying53 hi66 hz66 hs66 hy66 (by rfl) (by decide) (.slice none 0 0) 0 [] (by rfl) ⟨rfl, .inl ⟨rfl, rfl⟩⟩ ⟨W.heap.size, 0, none⟩ 1 1 es (by rfl) (by rw [hlen]) (World.news_of_block (cs := es.toArray) (t := 66) (fr := (0, 0)) (heap_alloc_new W.drew _)) H1.out (by decide) (by decide) (by decide) (Nat.zero_le _) _ rfl ?_
        intro g cap w5 hown hgrow hat hlt5
        refine hK _ _ ?_
        clear hK K
        simp only [Act.put, List.getElem_toArray, List.getElem_cons_zero, List.getElem_cons_succ, List.setIfInBounds_toArray, List.set_cons_zero, List.set_cons_succ]
        have hk5 : BW W w5 := grown_keep hgrow
        have hg5 : g = W.heap.size + 1 := by rcases hat with h | h; (exact absurd h (by simp [Value.ownBlock])); (rw [h]; simp)
        have hor := owns_range hown
        have HOR : Hid (w5.rangeAt g 0 es ∧ w5.there g 0 28) := hor
        have HK5 : Hid (BW W w5) := hk5
        have m0 := hk5.cell W0
        have p0' := hk5.cell p0
        have p1' := hk5.cell p1
        have p2' := hk5.cell p2
        have th5 := hk5.there HT.out
        have g0 := (th5 0 (by omega)).2
        have g2 := (th5 2 (by omega)).2
        have g3 := (th5 3 (by omega)).2
        have g4 := (th5 4 (by omega)).2
        have s2 := (th5 2 (by omega)).1
        have s3 := (th5 3 (by omega)).1
        have s4 := (th5 4 (by omega)).1
        obtain ⟨x2, s2⟩ := Option.isSome_iff_exists.1 s2
        obtain ⟨x3, s3⟩ := Option.isSome_iff_exists.1 s3
        obtain ⟨x4, s4⟩ := Option.isSome_iff_exists.1 s4
        rw [Nat.zero_add] at g0 g2 g3 g4 s2 s3 s4
        have TH5 : Hid (w5.there bb 0 6) := th5
        clear hor hk5 th5 hown hgrow hat W0 p0 p1 p2 rW
        refine wpAny_take (i := 8) (v := ?_) rfl (by kernel_rfl) (by kernel_rfl) (by kernel_rfl) (fun _ _ _ h => h) (Or.inl ⟨by rfl, ?_⟩) ?_
        rotate_left
        · (intro w'; go_simp; with_reducible rfl)
        simp only [Act.put, List.getElem_toArray, List.getElem_cons_zero, List.getElem_cons_succ, List.setIfInBounds_toArray, List.set_cons_zero, List.set_cons_succ]
        refine wpAny_take (i := 9) (v := ?_) rfl (by kernel_rfl) (by kernel_rfl) (by kernel_rfl) (fun _ _ _ h => h) (Or.inl ⟨by rfl, ?_⟩) ?_
        rotate_left
        · (intro w'; go_simp; with_reducible rfl)
        simp only [Act.put, List.getElem_toArray, List.getElem_cons_zero, List.getElem_cons_succ, List.setIfInBounds_toArray, List.set_cons_zero, List.set_cons_succ]
        refine wpAny_ready (rs := [10]) (by kernel_rfl) (by simp) ?_
        refine AllReady.cons rfl (fun K hK => ?_) AllReady.nil
        (go_simp; refine hK _ _ ?_; clear hK K)
        refine wpAny_done (by kernel_rfl) ?_ _
        go_wp2
        go_ret
        subst hg5
        exact ⟨rfl, placed_of HX.out HK5.out HOR.out TH5.out (by omega) (by omega)⟩

end Go.Proofs.Qxb6616992aDoor
