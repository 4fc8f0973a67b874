import Derived.Test.Qxb6616992aDoorAd2
namespace Go.Proofs.Qxb6616992aDoor
open Go.RowKit

theorem Placed.wrap {w w3 w4 : World} {bb q : Nat} {es : List Value} (h : Placed w3 bb es w4) (hb : BW w w3) (hq : w.heap.size ≤ q) (hq3 : q < w3.heap.size) (hqb : q ≠ bb) (vs : List Value) : Placed w bb es (w4.setCells q 0 vs) := by
  obtain ⟨h1, h2, g, cap, hg, hc, hr, ht⟩ := h
  have hx : BX q w4 (w4.setCells q 0 vs) := BX.setCells ((BW.self w4).bx q) 0 vs
  have h3 : BX bb w w4 := (hb.bx bb).then h1
  refine ⟨⟨hx.os.trans h3.os, hx.tape.trans h3.tape, hx.output.trans h3.output, Nat.le_trans h3.size hx.size, fun i hi hib => ?_⟩, hx.there (Ne.symm hqb) h2, g, cap, ?_, hx.cell (Ne.symm hqb) hc, hx.range (by omega) hr, hx.there (by omega) ht⟩
  · exact (hx.block i (Nat.lt_of_lt_of_le hi h3.size) (by omega)).trans (h3.block i hi hib)
  · have := hb.out.size; omega

theorem wpList_build66 {ops : Array Oper} {rest : List Oper} {o : Oper} {a : Act} {w : World} {Q : Exit → Act → World → Prop} (hg : o.guard = none) (x y : Operand) (ho : o.op = .build 66 #[(0, x), (1, y), (2, .const (.int .i64 0))])
    (id : List Int) (hid : id.length = 20) (l : Int) (z : Addr) (p t1 t2 : Int) (hx : a.eval x = .agg (C id ++ AP l z p).toArray) (hy : a.eval y = .agg #[.int .u64 t1, .int .i64 t2, .pointer none])
    (h : wpList Tryd.prog ops Q rest (a.put o.dst (.agg (C id ++ ER l z p t1 t2 0).toArray)) w) : wpList Tryd.prog ops Q (o :: rest) a w := by
  refine Great.wpList_runTo hg _ rfl _ _ ?_ h
  unfold execOp
  have hc : a.eval (.const (.int .i64 0)) = .int .i64 0 := rfl
  simp only [ho, Sem.run_bind, List.map_toArray, List.map_cons, List.map_nil, hx, hy, hc, build66 id hid, Result.andThen_ok, Sem.run_pure]

set_option linter.unusedSimpArgs false in
set_option maxRecDepth 100000 in
set_option maxHeartbeats 2000000 in
theorem add_first (t bb : Nat) (own id : List Int) (k : Int) (z : Addr) (l2 p2 t1 t2 : Int) (w : World) (hT : Tab w t bb own k) (hid : id.length = 20) (hne : id ≠ own) (hk : 1 ≤ k)
    (h0 : w.cell? ⟨bb, 0, none⟩ = some (.slice none 0 0)) (h1 : w.cell? ⟨bb, 1, none⟩ = some (.slice none 0 0)) (hth : w.there bb 0 6) :
    Calls Tryd.prog 14 #[.pointer (some ⟨t, 0, none⟩), .agg (C id ++ AP l2 z p2).toArray, .agg #[.int .u64 t1, .int .i64 t2, .pointer none]] w fun e w' => e = .returned (.tuple #[.agg CZ.toArray, .bool false]) ∧ Placed w bb (C id ++ ER l2 z p2 t1 t2 0) w' := by
  have hlt := World.block_lt_of_cell? w _ h0
  have hu := Tryd.underlying27
  have hi := size27 hid
  have hio := size27 hT.len
  have hu39 := Tryd.underlying39
  have hi39 := size39 (con_len id hid l2 z p2)
  have hb1 := addW_bw w (C id ++ AP l2 z p2) t1 t2
  have r1 := addW_con w (C id ++ AP l2 z p2) t1 t2
  have r2 := addW_tm w (C id ++ AP l2 z p2) t1 t2
  have r3 := addW_res w (C id ++ AP l2 z p2) t1 t2
  have sz := addW_size w (C id ++ AP l2 z p2) t1 t2
  have h16 : ∀ w', BW (addW w (C id ++ AP l2 z p2) t1 t2) w' → Calls Tryd.prog 16 #[.pointer (some ⟨t, 0, none⟩), .agg (C id ++ AP l2 z p2).toArray] w' fun e w'' => e = .returned (.pointer none) ∧ BW (addW w (C id ++ AP l2 z p2) t1 t2) w'' :=
    fun w' h => (entry_none t bb own id k _ w' (h.tab (hb1.tab hT)) hid (h.cell (hb1.cell h0))).mono (fun e w'' ⟨he, hb⟩ => ⟨he, h.then hb⟩)
  have h18 : ∀ w', BW (addW w (C id ++ AP l2 z p2) t1 t2) w' → Calls Tryd.prog 18 #[.pointer (some ⟨t, 0, none⟩), .agg (C id).toArray] w' fun e w'' => e = .returned (.int .i64 0) ∧ BW (addW w (C id ++ AP l2 z p2) t1 t2) w'' :=
    fun w' h => (bucket_any t bb own id k w' (h.tab (hb1.tab hT)) hid).mono (fun e w'' ⟨he, hb⟩ => ⟨he, h.then (BW.of hb)⟩)
  have h19 : ∀ w', BW (addW w (C id ++ AP l2 z p2) t1 t2) w' → Calls Tryd.prog 19 #[.pointer (some ⟨t, 0, none⟩), .int .i64 0, .agg (C id).toArray] w' fun e w'' => e = .returned (.int .i64 (-1)) ∧ BW (addW w (C id ++ AP l2 z p2) t1 t2) w'' :=
    fun w' h => (index_none t bb own id k w' (h.tab (hb1.tab hT)) (h.cell (hb1.cell h0))).mono (fun e w'' ⟨he, hb⟩ => ⟨he, h.then (BW.of hb)⟩)
  have h20 : ∀ w', BW (addW w (C id ++ AP l2 z p2) t1 t2) w' → Calls Tryd.prog 20 #[.pointer (some ⟨t, 0, none⟩), .agg (C id ++ ER l2 z p2 t1 t2 0).toArray, .agg #[.int .u64 t1, .int .i64 t2, .pointer none]] w' fun e w'' => e = .returned (.bool true) ∧ Placed w' bb (C id ++ ER l2 z p2 t1 t2 0) w'' :=
    fun w' h => place_first t bb own id k l2 z p2 t1 t2 w' (h.tab (hb1.tab hT)) hid hk (h.cell (hb1.cell h0)) (h.cell (hb1.cell h1)) (h.there (hb1.there hth))
  have hRo : ∀ w', BW (addW w (C id ++ AP l2 z p2) t1 t2) w' → w'.rangeAt t 0 (C own) := fun w' h => h.range (hb1.range hT.own)
  have hRi : ∀ w', BW (addW w (C id ++ AP l2 z p2) t1 t2) w' → w'.rangeAt w.heap.size 0 (C id) := fun w' h => h.range (range_left r1)
  have heq : ∀ w, (binOp .eql 27 (.agg (C id).toArray) (.agg (C own).toArray)).run Tryd.prog w = .ok (.bool false) w := fun w => by
    rw [eql27 id own hid hT.len, show (id == own) = false by simpa using hne]
  clear hT h0 h1 hth hne hk
  have hr1 : ∀ w', BW (addW w (C id ++ AP l2 z p2) t1 t2) w' → w'.rangeAt w.heap.size 0 (C id ++ AP l2 z p2) := fun w' h => h.range r1
  have hw0 : BW (addW w (C id ++ AP l2 z p2) t1 t2) (((w.alloc (.cells (C id ++ AP l2 z p2).toArray 39)).alloc (.cells #[.int .u64 t1, .int .i64 t2, .pointer none] 46)).alloc (.cells CZ.toArray 39)) := BW.self _
  obtain ⟨cs, hcs⟩ : ∃ cs, cs = C id ++ AP l2 z p2 := ⟨_, rfl⟩
  obtain ⟨es, hes⟩ : ∃ es, es = C id ++ ER l2 z p2 t1 t2 0 := ⟨_, rfl⟩
  have HB : Hid (cs = C id ++ AP l2 z p2 ∧ es = C id ++ ER l2 z p2 t1 t2 0) := ⟨hcs, hes⟩
  rw [← hes] at h20 ⊢
  rw [← hcs] at hi39 hb1 r1 r2 r3 sz h16 h18 h19 h20 hRo hRi hr1 hw0 ⊢
  clear hcs hes
  go_enter Tryd.func14, Tryd.ntmps14
  go_wp2_with (first | with_reducible refine wpList_alloc39 rfl rfl ?_ | (with_reducible refine wpList_load_mid rfl _ _ rfl _ _ rfl _ _ (hr1 _ (by assumption)) hu39 rfl hi39 ?_) | (go_at_call 16; refine (h16 _ (by assumption)).mono ?_; rintro e w1 ⟨rfl, hw1⟩; clear hw0))
  refine wp_region_BW hw1 (by kernel_rfl) (by kernel_rfl) ?_
  repeat (first
    | (refine BigFrame.wpQuiet_skip rfl ?_
       simp only [Act.put, List.setIfInBounds_toArray, List.set_cons_zero, List.set_cons_succ])
    | (refine wpQuiet_load rfl _ _ rfl _ _ rfl _ _ (fun w' hw' => by first | exact hRo w' hw' | exact hRi w' hw') hu rfl (by first | exact hio | exact hi) ?_
       simp only [Act.put, List.setIfInBounds_toArray, List.set_cons_zero, List.set_cons_succ])
    | (refine wpQuiet_run (v := ?_) rfl (fun w' hw' => ?_) ?_
       rotate_left
       · (go_simp; with_reducible rfl)
       simp only [Act.put, List.setIfInBounds_toArray, List.set_cons_zero, List.set_cons_succ])
    | (refine wpQuiet_call (f := 18) (args := #[.pointer (some ⟨t, 0, none⟩), .agg (C id).toArray]) (v := .int .i64 0) rfl (fun w' => ?_) (fun w' hw' => h18 w' hw') ?_
       · (go_simp; done)
       simp only [Act.put, List.setIfInBounds_toArray, List.set_cons_zero, List.set_cons_succ])
    | (refine wpQuiet_call (f := 19) (args := #[.pointer (some ⟨t, 0, none⟩), .int .i64 0, .agg (C id).toArray]) (v := .int .i64 (-1)) rfl (fun w' => ?_) (fun w' hw' => h19 w' hw') ?_
       · (go_simp; done)
       simp only [Act.put, List.setIfInBounds_toArray, List.set_cons_zero, List.set_cons_succ]))
  refine wpQuiet_nil ?_
  intro w2 hw2
  have tm := hw2.range r2
  have q0 := tm 0 _ rfl
  have q1 := tm 1 _ rfl
  have q2 := tm 2 _ rfl
  have hl39 := CZ_len
  have hs39 := size39 CZ_len
  have h139 := CZ_one
  have ht2 : w2.there (w.heap.size + 2) 0 24 := hw2.there r3
  have hsz := hw2.out.size
  clear tm hw1
  go_wp2_with (first | (with_reducible refine wpList_load_mid rfl _ _ rfl _ _ rfl _ _ (hr1 _ hw2) hu39 rfl hi39 ?_) | (refine wpList_build66 rfl _ _ rfl id hid l2 z p2 t1 t2 (by rw [← HB.out.1]; rfl) rfl ?_; rw [← HB.out.2]) | (go_at_call 20; refine (h20 _ hw2).mono ?_; rintro e w3 ⟨rfl, hP⟩; have ht3 : w3.there (w.heap.size + 2) 0 CZ.length := by (rw [CZ_len]; exact hP.1.there (by omega) ht2)) | with_reducible refine wpList_build0 rfl rfl ?_ | refine wpList_store_mid rfl _ _ _ rfl _ _ _ rfl rfl ht3 hs39 (all_oneCell_toArray h139) ?_)
  refine bodyPost_ret (results_cell2 (p := 6) (u := 7) rfl _ _ (w.heap.size + 2) 0 CZ _ rfl (World.rangeAt_setCells_same _ _ _ _ ht3) hu39 rfl hs39) rfl ?_
  exact ⟨rfl, hP.wrap (hb1.then hw2) (by omega) (by omega) (by omega) _⟩

end Go.Proofs.Qxb6616992aDoor
