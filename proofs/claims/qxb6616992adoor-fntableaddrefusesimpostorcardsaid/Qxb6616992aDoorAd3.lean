import Derived.Test.Qxb6616992aDoorAd1
namespace Go.Proofs.Qxb6616992aDoor
open Go.RowKit

theorem range_join {w : World} {b o : Nat} {xs ys : List Value} (h1 : w.rangeAt b o xs) (h2 : w.rangeAt b (o + xs.length) ys) : w.rangeAt b o (xs ++ ys) := fun j v hv => by
  rcases Nat.lt_or_ge j xs.length with hj | hj
  · rw [List.getElem?_append_left hj] at hv; exact h1 j v hv
  · rw [List.getElem?_append_right hj] at hv
    have := h2 _ v hv
    rw [show o + xs.length + (j - xs.length) = o + j by omega] at this
    exact this

theorem range_setCell_off {w : World} {b o off : Nat} {cs : List Value} (h : w.rangeAt b o cs) (v : Value) (hj : ∀ j, j < cs.length → off ≠ o + j) : (w.setCell ⟨b, off, none⟩ v).rangeAt b o cs := fun j u hu => by
  have hlt := (List.getElem?_eq_some_iff.1 hu).1
  rw [World.cell?_setCell_other _ _ _ _ (by intro e; injection e with _ e2 _; exact hj j hlt e2)]
  exact h j u hu

theorem there_at {w : World} {b o n : Nat} (h : w.there b o n) (j : Nat) (hj : j < n) : ∃ u, w.cell? ⟨b, o + j, none⟩ = some u := Option.isSome_iff_exists.1 (h j hj).1

/-- the four last cells of an entry written anew -/
theorem range_heard {w : World} {g : Nat} {id : List Int} {l p : Int} {z : Addr} {r : List Value} (hid : id.length = 20) (h : w.rangeAt g 0 (C id ++ (AP l z p ++ r))) (ht : w.there g 0 28) (t1 t2 : Int) :
    ((((w.setCell ⟨g, 24, none⟩ (.int .u64 t1)).setCell ⟨g, 25, none⟩ (.int .i64 t2)).setCell ⟨g, 26, none⟩ (.pointer none)).setCell ⟨g, 27, none⟩ (.int .i64 0)).rangeAt g 0 (C id ++ ER l z p t1 t2 0) := by
  have hA := range_left h
  have hB := range_left (range_right h)
  rw [C_len, hid, Nat.zero_add] at hB
  have lA : (C id).length = 20 := by rw [C_len, hid]
  have lB : (AP l z p).length = 4 := rfl
  have tA := range_setCell_off (range_setCell_off (range_setCell_off (range_setCell_off hA (off := 24) (.int .u64 t1) (by omega)) (off := 25) (.int .i64 t2) (by omega)) (off := 26) (.pointer none) (by omega)) (off := 27) (.int .i64 0) (by omega)
  have tB := range_setCell_off (range_setCell_off (range_setCell_off (range_setCell_off hB (off := 24) (.int .u64 t1) (by omega)) (off := 25) (.int .i64 t2) (by omega)) (off := 26) (.pointer none) (by omega)) (off := 27) (.int .i64 0) (by omega)
  obtain ⟨u0, k0⟩ := there_at ht 24 (by omega)
  obtain ⟨u1, k1⟩ := there_at (there_setCell ht ⟨g, 24, none⟩ (.int .u64 t1)) 25 (by omega)
  obtain ⟨u2, k2⟩ := there_at (there_setCell (there_setCell ht ⟨g, 24, none⟩ (.int .u64 t1)) ⟨g, 25, none⟩ (.int .i64 t2)) 26 (by omega)
  obtain ⟨u3, k3⟩ := there_at (there_setCell (there_setCell (there_setCell ht ⟨g, 24, none⟩ (.int .u64 t1)) ⟨g, 25, none⟩ (.int .i64 t2)) ⟨g, 26, none⟩ (.pointer none)) 27 (by omega)
  rw [Nat.zero_add] at k0 k1 k2 k3
  refine range_join tA ?_
  rw [lA, Nat.zero_add]
  refine range_join tB ?_
  rw [lB]
  intro j v hv
  match j with
  | 0 => cases hv; rw [World.cell?_setCell_other _ _ _ _ (by simp), World.cell?_setCell_other _ _ _ _ (by simp), World.cell?_setCell_other _ _ _ _ (by simp)]; exact World.cell?_setCell_same _ _ _ k0
  | 1 => cases hv; rw [World.cell?_setCell_other _ _ _ _ (by simp), World.cell?_setCell_other _ _ _ _ (by simp)]; exact World.cell?_setCell_same _ _ _ k1
  | 2 => cases hv; rw [World.cell?_setCell_other _ _ _ _ (by simp)]; exact World.cell?_setCell_same _ _ _ k2
  | 3 => cases hv; exact World.cell?_setCell_same _ _ _ k3
  | n + 4 => cases hv

theorem tail_cells {w : World} {g : Nat} {id : List Int} {l p t1 t2 f : Int} {z : Addr} (hid : id.length = 20) (h : w.rangeAt g 0 (C id ++ ER l z p t1 t2 f)) : w.rangeAt g 24 [.int .u64 t1, .int .i64 t2, .pointer none, .int .i64 f] := by
  have h2 := range_right h
  rw [C_len, hid] at h2
  exact range_right (xs := AP l z p) h2

/-- the entry has been heard of anew -/
def Heard (w : World) (bb g cap : Nat) (es : List Value) (w' : World) : Prop :=
  w'.os = w.os ∧ w'.tape = w.tape ∧ w'.output = w.output ∧ w.heap.size ≤ w'.heap.size ∧ (∀ i, i < w.heap.size → i ≠ bb → i ≠ g → w'.heap[i]? = w.heap[i]?) ∧
    w'.cell? ⟨bb, 0, none⟩ = some (.slice (some ⟨g, 0, none⟩) 1 cap) ∧ w'.rangeAt g 0 es

theorem size46 (t1 t2 : Int) : (Tryd.prog.info? 46).map (·.size) = some ([.int .u64 t1, .int .i64 t2, .pointer none] : List Value).length := by show _ = some 3; kernel_rfl

set_option linter.unusedSimpArgs false in
set_option maxRecDepth 100000 in
set_option maxHeartbeats 4000000 in
theorem add_same (t bb g cap : Nat) (own id : List Int) (k : Int) (z : Addr) (l p u1 u2 f t1 t2 : Int) (w : World) (hT : Tab w t bb own k) (hid : id.length = 20) (h0 : w.cell? ⟨bb, 0, none⟩ = some (.slice (some ⟨g, 0, none⟩) 1 cap))
    (he : w.rangeAt g 0 (C id ++ ER l z p u1 u2 f)) (htg : w.there g 0 28) (htb : w.there bb 0 6) (n1 : t ≠ g) (n2 : t ≠ bb) (n3 : g ≠ bb) :
    Calls Tryd.prog 14 #[.pointer (some ⟨t, 0, none⟩), .agg (C id ++ AP l z p).toArray, .agg #[.int .u64 t1, .int .i64 t2, .pointer none]] w fun e w' => e = .returned (.tuple #[.agg CZ.toArray, .bool false]) ∧ Heard w bb g cap (C id ++ ER l z p t1 t2 0) w' := by
  have hltb := World.block_lt_of_cell? w _ h0
  have hltg : g < w.heap.size := (there_at htg 0 (by omega)).elim fun _ h => World.block_lt_of_cell? w _ h
  have hltt := World.block_lt_of_cell? w _ hT.bks
  have hu := Tryd.underlying27
  have hi := size27 hid
  have hu39 := Tryd.underlying39
  have hi39 := size39 (con_len id hid l z p)
  have hb1 := addW_bw w (C id ++ AP l z p) t1 t2
  have r1 := addW_con w (C id ++ AP l z p) t1 t2
  have r2 := addW_tm w (C id ++ AP l z p) t1 t2
  have r3 := addW_res w (C id ++ AP l z p) t1 t2
  have sz := addW_size w (C id ++ AP l z p) t1 t2
  have h16 : ∀ w', BW (addW w (C id ++ AP l z p) t1 t2) w' → Calls Tryd.prog 16 #[.pointer (some ⟨t, 0, none⟩), .agg (C id ++ AP l z p).toArray] w' fun e w'' => e = .returned (.pointer (some ⟨g, 0, none⟩)) ∧ BW (addW w (C id ++ AP l z p) t1 t2) w'' :=
    fun w' h => (entry_same t bb g cap own id k z l p l p _ w' (h.tab (hb1.tab hT)) hid (h.cell (hb1.cell h0)) (h.range (hb1.range he)) rfl ⟨rfl, rfl⟩).mono (fun e w'' ⟨he, hb⟩ => ⟨he, h.then hb⟩)
  have hr1 : ∀ w', BW (addW w (C id ++ AP l z p) t1 t2) w' → w'.rangeAt w.heap.size 0 (C id ++ AP l z p) := fun w' h => h.range r1
  have hw0 : BW (addW w (C id ++ AP l z p) t1 t2) (((w.alloc (.cells (C id ++ AP l z p).toArray 39)).alloc (.cells #[.int .u64 t1, .int .i64 t2, .pointer none] 46)).alloc (.cells CZ.toArray 39)) := BW.self _
  have rI := range_left r1
  generalize C id ++ AP l z p = cs at hi39 hb1 r1 r2 r3 sz h16 hr1 hw0 rI ⊢
  go_enter Tryd.func14, Tryd.ntmps14
  go_wp2_with (first | with_reducible refine wpList_alloc39 rfl rfl ?_ | (with_reducible refine wpList_load_mid rfl _ _ rfl _ _ rfl _ _ (hr1 _ (by assumption)) hu39 rfl hi39 ?_) | (go_at_call 16; refine (h16 _ (by assumption)).mono ?_; rintro e w1 ⟨rfl, hw1⟩; have hbw := hb1.then hw1; have rT := hw1.range r2; have q0 : w1.cell? ⟨w.heap.size + 1, 0, none⟩ = some (.int .u64 t1) := rT 0 _ rfl; have q1 : w1.cell? ⟨w.heap.size + 1, 1, none⟩ = some (.int .i64 t2) := rT 1 _ rfl; have q2 : w1.cell? ⟨w.heap.size + 1, 2, none⟩ = some (.pointer none) := rT 2 _ rfl; have rE := tail_cells hid (hbw.range he); have g0 : w1.cell? ⟨g, 24, none⟩ = some (.int .u64 u1) := rE 0 _ rfl; have g1 : w1.cell? ⟨g, 25, none⟩ = some (.int .i64 u2) := rE 1 _ rfl; have g2 : w1.cell? ⟨g, 26, none⟩ = some (.pointer none) := rE 2 _ rfl; have g3 : w1.cell? ⟨g, 27, none⟩ = some (.int .i64 f) := rE 3 _ rfl; have tG := hbw.there htg; have f0 : w1.frozen? ⟨g, 24, none⟩ = false := (tG 24 (by omega)).2; have f1 : w1.frozen? ⟨g, 25, none⟩ = false := (tG 25 (by omega)).2; have f2 : w1.frozen? ⟨g, 26, none⟩ = false := (tG 26 (by omega)).2; have f3 : w1.frozen? ⟨g, 27, none⟩ = false := (tG 27 (by omega)).2; clear hw0 rE rT))
  have hx : BX g w1 ((((w1.setCell ⟨g, 24, none⟩ (.int .u64 t1)).setCell ⟨g, 25, none⟩ (.int .i64 t2)).setCell ⟨g, 26, none⟩ (.pointer none)).setCell ⟨g, 27, none⟩ (.int .i64 0)) :=
    (BX.set _ g 24 _).then ((BX.set _ g 25 _).then ((BX.set _ g 26 _).then (BX.set _ g 27 _)))
  have rG := range_heard hid (hbw.range he) tG t1 t2
  generalize (((w1.setCell ⟨g, 24, none⟩ (.int .u64 t1)).setCell ⟨g, 25, none⟩ (.int .i64 t2)).setCell ⟨g, 26, none⟩ (.pointer none)).setCell ⟨g, 27, none⟩ (.int .i64 0) = W at hx rG ⊢
  have TW := hx.tab n1 (hbw.tab hT)
  have c0 := hx.cell (a := ⟨bb, 0, none⟩) (Ne.symm n3) (hbw.cell h0)
  have rIW := hx.range (show w.heap.size ≠ g by omega) (hw1.range rI)
  have rTW := hx.range (show w.heap.size + 1 ≠ g by omega) (hw1.range r2)
  have thB := hx.there (Ne.symm n3) (hbw.there htb)
  have thR := hx.there (show w.heap.size + 2 ≠ g by omega) (hw1.there r3)
  have szW := hx.size
  have sz1 := hw1.out.size
  rw [sz] at sz1
  clear q0 q1 q2 g0 g1 g2 g3 f0 f1 f2 f3 tG he h0 hT htg htb h16 hr1 hi39 rI r1 r2 r3
  refine wp_region_held_drew (S := fun w' => BX bb W w' ∧ w'.there bb 0 6 ∧ w'.cell? ⟨bb, 0, none⟩ = some (.slice (some ⟨g, 0, none⟩) 1 cap)) (by kernel_rfl) ⟨(BW.of (Below.refl _ _).drew).bx _, by simpa using thB, by simpa using c0⟩ (fun hHeld => ?_)
  refine wpAnyH_take (i := 0) (v := ?_) rfl (by kernel_rfl) (by kernel_rfl) (by kernel_rfl) (fun _ _ _ h => h) (Or.inl ⟨by rfl, ?_⟩) hHeld ?_
  rotate_left
  · (intro w' hS; go_simp; with_reducible rfl)
  simp only [Act.put, List.getElem_toArray, List.getElem_cons_zero, List.getElem_cons_succ, List.setIfInBounds_toArray, List.set_cons_zero, List.set_cons_succ]
  refine wpAnyH_take (i := 1) (v := ?_) rfl (by kernel_rfl) (by kernel_rfl) (by kernel_rfl) (fun _ _ _ h => h) (Or.inl ⟨by rfl, ?_⟩) hHeld ?_
  rotate_left
  · (intro w' hS; go_simp; with_reducible rfl)
  simp only [Act.put, List.getElem_toArray, List.getElem_cons_zero, List.getElem_cons_succ, List.setIfInBounds_toArray, List.set_cons_zero, List.set_cons_succ]
  refine wpAnyH_take (i := 2) (v := ?_) rfl (by kernel_rfl) (by kernel_rfl) (by kernel_rfl) (fun _ _ _ h => h) (Or.inl ⟨by rfl, ?_⟩) hHeld ?_
  rotate_left
  · (intro w' hS; go_simp; with_reducible rfl)
  simp only [Act.put, List.getElem_toArray, List.getElem_cons_zero, List.getElem_cons_succ, List.setIfInBounds_toArray, List.set_cons_zero, List.set_cons_succ]
  refine wpAnyH_take (i := 3) (v := ?_) rfl (by kernel_rfl) (by kernel_rfl) (by kernel_rfl) (fun _ _ _ h => h) (Or.inl ⟨by rfl, ?_⟩) hHeld ?_
  rotate_left
  · (intro w' hS; have h21 := hS.1.cell (a := ⟨t, 21, none⟩) n2 TW.bks; go_simp; with_reducible rfl)
  simp only [Act.put, List.getElem_toArray, List.getElem_cons_zero, List.getElem_cons_succ, List.setIfInBounds_toArray, List.set_cons_zero, List.set_cons_succ]
  refine wpAnyH_take (i := 4) (v := ?_) rfl (by kernel_rfl) (by kernel_rfl) (by kernel_rfl) (fun _ _ _ h => h) (Or.inl ⟨by rfl, ?_⟩) hHeld ?_
  rotate_left
  · (intro w' hS; go_simp; with_reducible rfl)
  simp only [Act.put, List.getElem_toArray, List.getElem_cons_zero, List.getElem_cons_succ, List.setIfInBounds_toArray, List.set_cons_zero, List.set_cons_succ]
  refine wpAnyH_take (i := 5) (v := ?_) rfl (by kernel_rfl) (by kernel_rfl) (by kernel_rfl) (fun _ _ _ h => h) (Or.inl ⟨by rfl, ?_⟩) hHeld ?_
  rotate_left
  · (intro w' hS; go_simp; with_reducible rfl)
  simp only [Act.put, List.getElem_toArray, List.getElem_cons_zero, List.getElem_cons_succ, List.setIfInBounds_toArray, List.set_cons_zero, List.set_cons_succ]
  refine wpAnyH_take (i := 6) rfl (by kernel_rfl) (by kernel_rfl) (by kernel_rfl) (fun _ _ _ h => h) (yieldsIf_load_mid (by rfl) _ _ rfl _ _ rfl (C id) _ (fun w' hS => hS.1.range (by omega) rIW) hu rfl hi) hHeld ?_
  simp only [Act.put, List.getElem_toArray, List.getElem_cons_zero, List.getElem_cons_succ, List.setIfInBounds_toArray, List.set_cons_zero, List.set_cons_succ]
  refine wpAnyH_take (i := 8) rfl (by kernel_rfl) (by kernel_rfl) (by kernel_rfl) (fun _ _ _ h => h) (yieldsIf_load_mid (by rfl) _ _ rfl _ _ rfl [.int .u64 t1, .int .i64 t2, .pointer none] _ (fun w' hS => hS.1.range (by omega) rTW) Tryd.underlying46 rfl (size46 t1 t2)) hHeld ?_
  simp only [Act.put, List.getElem_toArray, List.getElem_cons_zero, List.getElem_cons_succ, List.setIfInBounds_toArray, List.set_cons_zero, List.set_cons_succ]
  refine wpAnyH_ready (rs := [7]) (by kernel_rfl) (by simp) ?_
  refine AllReadyH.cons rfl (fun K hK => ?_) AllReadyH.nil
  go_simp
  refine (bucket_any t bb own id k _ (hHeld.1.tab n2 TW) hid).mono ?_
  rintro e w2 ⟨rfl, hw2⟩
  have hw2' := BW.of hw2
  refine hK.out _ _ ⟨hHeld.1.then (hw2'.bx _), hw2'.there hHeld.2.1, hw2'.cell hHeld.2.2⟩ (fun hHeld2 => ?_)
  clear hK K hHeld hw2 hw2'
  refine wpAnyH_take (i := 9) (v := ?_) rfl (by kernel_rfl) (by kernel_rfl) (by kernel_rfl) (fun _ _ _ h => h) (Or.inl ⟨by rfl, ?_⟩) hHeld2 ?_
  rotate_left
  · (intro w' hS; go_simp; with_reducible rfl)
  simp only [Act.put, List.getElem_toArray, List.getElem_cons_zero, List.getElem_cons_succ, List.setIfInBounds_toArray, List.set_cons_zero, List.set_cons_succ]
  refine wpAnyH_take (i := 10) (v := ?_) rfl (by kernel_rfl) (by kernel_rfl) (by kernel_rfl) (fun _ _ _ h => h) (Or.inl ⟨by rfl, ?_⟩) hHeld2 ?_
  rotate_left
  · (intro w' hS; go_simp; with_reducible rfl)
  simp only [Act.put, List.getElem_toArray, List.getElem_cons_zero, List.getElem_cons_succ, List.setIfInBounds_toArray, List.set_cons_zero, List.set_cons_succ]
  have HT3 : w2.there bb 2 ([.int .u64 t1, .int .i64 t2, .pointer none] : List Value).length := fun j hj => by
    have hj3 : j < 3 := hj
    have h := hHeld2.2.1 (2 + j) (by omega)
    rw [Nat.zero_add] at h
    exact h
  refine wpAnyH_ready (rs := [11]) (by kernel_rfl) (by simp) ?_
  refine AllReadyH.cons rfl (fun K hK => ?_) AllReadyH.nil
  rw [if_pos (by rfl)]
  refine wp_store_mid _ _ _ rfl _ _ (List.toArray [.int .u64 t1, .int .i64 t2, .pointer none]) rfl rfl HT3 (size46 t1 t2) (by simp [Value.oneCell']) ?_
  refine hK.out _ _ ⟨hHeld2.1.setCells _ _, World.there_setCells hHeld2.2.1 _ _ _, (World.cell?_setCells_out bb _ 2 w2 ⟨bb, 0, none⟩ (fun _ _ => .inl (show 0 < 2 by omega))).trans hHeld2.2.2⟩ (fun hHeld3 => ?_)
  clear hK K
  refine wpAnyH_done (by kernel_rfl) ?_ _
  simp only [Act.put, List.getElem_toArray, List.getElem_cons_zero, List.getElem_cons_succ, List.setIfInBounds_toArray, List.set_cons_zero, List.set_cons_succ]
  clear hHeld2 HT3
  generalize w2.setCells bb 2 _ = W5 at hHeld3 ⊢
  have hs39 := size39 CZ_len
  have h139 := CZ_one
  have ht5 : W5.there (w.heap.size + 2) 0 CZ.length := by rw [CZ_len]; exact hHeld3.1.there (by omega) thR
  have rG5 := hHeld3.1.range n3 rG
  have HH : Hid (BX bb W W5 ∧ W5.there bb 0 6 ∧ W5.cell? ⟨bb, 0, none⟩ = some (.slice (some ⟨g, 0, none⟩) 1 cap)) := hHeld3
  clear hHeld3 rG TW c0 rIW rTW thB thR
  go_wp2_with (first | with_reducible refine wpList_build0 rfl rfl ?_ | refine wpList_store_mid rfl _ _ _ rfl _ _ _ rfl rfl ht5 hs39 (all_oneCell_toArray h139) ?_)
  refine bodyPost_ret (results_cell2 (p := 6) (u := 7) rfl _ _ (w.heap.size + 2) 0 CZ _ rfl (World.rangeAt_setCells_same _ _ _ _ ht5) hu39 rfl hs39) rfl ?_
  have h6 : BX (w.heap.size + 2) W5 (W5.setCells (w.heap.size + 2) 0 CZ) := BX.setCells ((BW.self W5).bx _) 0 CZ
  have k := HH.out.1
  have hwo := hbw.out
  refine ⟨rfl, h6.os.trans (k.os.trans (hx.os.trans hwo.os)), h6.tape.trans (k.tape.trans (hx.tape.trans hwo.tape)), h6.output.trans (k.output.trans (hx.output.trans hwo.output)), ?_, fun i hi hib hig => ?_, h6.cell (a := ⟨bb, 0, none⟩) (show bb ≠ _ by omega) HH.out.2.2, h6.range (by omega) rG5⟩
  · have hk5 : w.heap.size ≤ W5.heap.size := by have := k.size; omega
    exact Nat.le_trans hk5 h6.size
  · have := k.size
    exact (h6.block i (by omega) (by omega)).trans ((k.block i (by omega) hib).trans ((hx.block i (by omega) hig).trans (hwo.block i hi)))

end Go.Proofs.Qxb6616992aDoor
