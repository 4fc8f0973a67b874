import Derived.Test.Qxb6616992aDoorNew
namespace Go.Proofs.Qxb6616992aDoor
open Go.RowKit

/-- the world in which add's body begins: the contact, the time, the result -/
def addW (w : World) (cs : List Value) (t1 t2 : Int) : World :=
  ((w.alloc (.cells cs.toArray 39)).alloc (.cells #[.int .u64 t1, .int .i64 t2, .pointer none] 46)).alloc (.cells CZ.toArray 39)
theorem addW_bw (w : World) (cs : List Value) (t1 t2 : Int) : BW w (addW w cs t1 t2) := (BW.new _ _).then ((BW.new _ _).then (BW.new _ _))
theorem addW_size (w : World) (cs : List Value) (t1 t2 : Int) : (addW w cs t1 t2).heap.size = w.heap.size + 3 := by simp [addW]
theorem addW_con (w : World) (cs : List Value) (t1 t2 : Int) : (addW w cs t1 t2).rangeAt w.heap.size 0 cs := (BW.new _ _).range ((BW.new _ _).range (range_new w cs 39))
theorem addW_tm (w : World) (cs : List Value) (t1 t2 : Int) : (addW w cs t1 t2).rangeAt (w.heap.size + 1) 0 [.int .u64 t1, .int .i64 t2, .pointer none] := by
  have h := (BW.new _ (.cells CZ.toArray 39)).range (range_new (w.alloc (.cells cs.toArray 39)) [.int .u64 t1, .int .i64 t2, .pointer none] 46)
  have e : (w.alloc (.cells cs.toArray 39)).heap.size = w.heap.size + 1 := by simp
  rw [e] at h
  exact h
theorem addW_res (w : World) (cs : List Value) (t1 t2 : Int) : (addW w cs t1 t2).there (w.heap.size + 2) 0 24 := by
  have h := there_new ((w.alloc (.cells cs.toArray 39)).alloc (.cells #[.int .u64 t1, .int .i64 t2, .pointer none] 46)) CZ 39 24 (by rw [CZ_len]; decide)
  have e : ((w.alloc (.cells cs.toArray 39)).alloc (.cells #[.int .u64 t1, .int .i64 t2, .pointer none] 46)).heap.size = w.heap.size + 2 := by simp
  rw [e] at h
  exact h

set_option linter.unusedSimpArgs false in
set_option maxRecDepth 100000 in
set_option maxHeartbeats 2000000 in
theorem add_other (t bb eb cap : Nat) (own id : List Int) (k : Int) (z : Addr) (l1 p1 l2 p2 t1 t2 : Int) (r : List Value) (w : World) (hT : Tab w t bb own k) (hid : id.length = 20) (hne : id ≠ own) (h0 : w.cell? ⟨bb, 0, none⟩ = some (.slice (some ⟨eb, 0, none⟩) 1 cap))
    (he : w.rangeAt eb 0 (C id ++ (AP l1 z p1 ++ r))) (hr : r.length = 4) (hq : ¬ (l1 = l2 ∧ p1 = p2)) :
    Calls Tryd.prog 14 #[.pointer (some ⟨t, 0, none⟩), .agg (C id ++ AP l2 z p2).toArray, .agg #[.int .u64 t1, .int .i64 t2, .pointer none]] w fun e w' => e = .returned (.tuple #[.agg CZ.toArray, .bool false]) ∧ BW w w' := by
  have hl28 : (C id ++ (AP l1 z p1 ++ r)).length = 28 := by rw [List.length_append, List.length_append, C_len, hid, hr]; rfl
  have hu := Tryd.underlying27
  have hi := size27 hid
  have hio := size27 hT.len
  have hu39 := Tryd.underlying39
  have hi39 := size39 (con_len id hid l2 z p2)
  have hb1 := addW_bw w (C id ++ AP l2 z p2) t1 t2
  have r1 := addW_con w (C id ++ AP l2 z p2) t1 t2
  have r3 := addW_res w (C id ++ AP l2 z p2) t1 t2
  have h16 : ∀ w', BW (addW w (C id ++ AP l2 z p2) t1 t2) w' → Calls Tryd.prog 16 #[.pointer (some ⟨t, 0, none⟩), .agg (C id ++ AP l2 z p2).toArray] w' fun e w'' => e = .returned (.pointer none) ∧ BW (addW w (C id ++ AP l2 z p2) t1 t2) w'' :=
    fun w' h => (entry_other t bb eb cap own id k z l1 p1 l2 p2 r w' (h.tab (hb1.tab hT)) hid (h.cell (hb1.cell h0)) (h.range (hb1.range he)) hr hq).mono (fun e w'' ⟨he, hb⟩ => ⟨he, h.then hb⟩)
  have h18 : ∀ w', BW (addW w (C id ++ AP l2 z p2) t1 t2) w' → Calls Tryd.prog 18 #[.pointer (some ⟨t, 0, none⟩), .agg (C id).toArray] w' fun e w'' => e = .returned (.int .i64 0) ∧ BW (addW w (C id ++ AP l2 z p2) t1 t2) w'' :=
    fun w' h => (bucket_any t bb own id k w' (h.tab (hb1.tab hT)) hid).mono (fun e w'' ⟨he, hb⟩ => ⟨he, h.then (BW.of hb)⟩)
  have h19 : ∀ w', BW (addW w (C id ++ AP l2 z p2) t1 t2) w' → Calls Tryd.prog 19 #[.pointer (some ⟨t, 0, none⟩), .int .i64 0, .agg (C id).toArray] w' fun e w'' => e = .returned (.int .i64 0) ∧ BW (addW w (C id ++ AP l2 z p2) t1 t2) w'' :=
    fun w' h => (index_one t bb eb cap own id k _ w' (h.tab (hb1.tab hT)) hid (h.cell (hb1.cell h0)) (h.range (hb1.range he)) hl28).mono (fun e w'' ⟨he, hb⟩ => ⟨he, h.then (BW.of hb)⟩)
  have hRo : ∀ w', BW (addW w (C id ++ AP l2 z p2) t1 t2) w' → w'.rangeAt t 0 (C own) := fun w' h => h.range (hb1.range hT.own)
  have hRi : ∀ w', BW (addW w (C id ++ AP l2 z p2) t1 t2) w' → w'.rangeAt w.heap.size 0 (C id) := fun w' h => h.range (range_left r1)
  have heq : ∀ w, (binOp .eql 27 (.agg (C id).toArray) (.agg (C own).toArray)).run Tryd.prog w = .ok (.bool false) w := fun w => by
    rw [eql27 id own hid hT.len, show (id == own) = false by simpa using hne]
  clear hT h0 he hq hl28 hr hne
  generalize C id ++ AP l2 z p2 = cs at *
  have hr1 : ∀ w', BW (addW w cs t1 t2) w' → w'.rangeAt w.heap.size 0 cs := fun w' h => h.range r1
  have hw0 : BW (addW w cs t1 t2) (((w.alloc (.cells cs.toArray 39)).alloc (.cells #[.int .u64 t1, .int .i64 t2, .pointer none] 46)).alloc (.cells CZ.toArray 39)) := BW.self _
  go_enter Tryd.func14, Tryd.ntmps14
  go_wp2_with (first | with_reducible refine wpList_alloc39 rfl rfl ?_ | (with_reducible refine wpList_load_mid rfl _ _ rfl _ _ rfl _ _ (hr1 _ (by assumption)) hu39 rfl hi39 ?_) | (go_at_call 16; refine (h16 _ (by assumption)).mono ?_; rintro e w1 ⟨rfl, hw1⟩; clear hw0))
  refine wp_region_BW hw1 (by kernel_rfl) (by kernel_rfl) ?_
  repeat (first
    | (refine BigFrame.wpQuiet_skip rfl ?_
       simp only [Act.put, List.setIfInBounds_toArray, List.set_cons_zero, List.set_cons_succ])
    | (refine wpQuiet_load rfl _ _ rfl _ _ rfl _ _ (fun w' hw' => by first | exact hRo w' hw' | exact hRi w' hw') hu rfl (by first | exact hio | exact hi) ?_
       simp only [Act.put, List.setIfInBounds_toArray, List.set_cons_zero, List.set_cons_succ])
    | (refine wpQuiet_run (v := ?_) rfl (fun w' hw' => ?_) ?_
       rotate_left
       · (go_simp; with_reducible rfl)
       simp only [Act.put, List.setIfInBounds_toArray, List.set_cons_zero, List.set_cons_succ])
    | (refine wpQuiet_call (f := 18) (args := #[.pointer (some ⟨t, 0, none⟩), .agg (C id).toArray]) (v := .int .i64 0) rfl (fun w' => ?_) (fun w' hw' => h18 w' hw') ?_
       · (go_simp; done)
       simp only [Act.put, List.setIfInBounds_toArray, List.set_cons_zero, List.set_cons_succ])
    | (refine wpQuiet_call (f := 19) (args := #[.pointer (some ⟨t, 0, none⟩), .int .i64 0, .agg (C id).toArray]) (v := .int .i64 (0)) rfl (fun w' => ?_) (fun w' hw' => h19 w' hw') ?_
       · (go_simp; done)
       simp only [Act.put, List.setIfInBounds_toArray, List.set_cons_zero, List.set_cons_succ]))
  refine wpQuiet_nil ?_
  intro w2 hw2
  have hl39 := CZ_len
  have hs39 := size39 CZ_len
  have h139 := CZ_one
  have ht2 : w2.there (w.heap.size + 2) 0 CZ.length := by rw [CZ_len]; exact hw2.there r3
  go_wp2_with (first | with_reducible refine wpList_build0 rfl rfl ?_ | refine wpList_store_mid rfl _ _ _ rfl _ _ _ rfl rfl ht2 hs39 (all_oneCell_toArray h139) ?_)
  refine bodyPost_ret (results_cell2 (p := 6) (u := 7) rfl _ _ (w.heap.size + 2) 0 CZ _ rfl (World.rangeAt_setCells_same _ _ _ _ ht2) hu39 rfl hs39) rfl ?_
  exact ⟨rfl, (hb1.then hw2).setCells _ _ _ (by omega)⟩

end Go.Proofs.Qxb6616992aDoor
