import Derived.Test.Qxb6616992aDoorLwb
namespace Go.Proofs.Qxb6616992aDoor
open Go.RowKit

set_option linter.unusedSimpArgs false in
set_option maxRecDepth 100000 in
set_option maxHeartbeats 1000000 in
theorem law_ips (own id : List Int) (k a b c d p1 a' b' c' d' p2 d1 d2 d3 : Int) (z : Addr) (w : World) (ho : own.length = 20) (hid : id.length = 20) (hz : w.cell? ⟨0, 0, none⟩ = some (.pointer (some z)))
    (ba : Byte a) (bb' : Byte b) (bc : Byte c) (bd : Byte d) (ba' : Byte a') (bb'' : Byte b') (bc' : Byte c') (bd' : Byte d') (hd1 : -9223372036854775808 ≤ d1 ∧ d1 ≤ 9223372036854775807) (hd2 : -9223372036854775808 ≤ d2 ∧ d2 ≤ 9223372036854775807) (hd3 : -9223372036854775808 ≤ d3 ∧ d3 ≤ 9223372036854775807) (hk : ¬ k < 1) (hne : id ≠ own) (hip : ¬ ([a, b, c, d] : List Int) = [a', b', c', d']) :
    Calls Tryd.prog 3 #[.agg (C own).toArray, .int .i64 k, .agg (C id).toArray, .agg #[.int .u8 a, .int .u8 b, .int .u8 c, .int .u8 d], .int .u16 p1, .agg #[.int .u8 a', .int .u8 b', .int .u8 c', .int .u8 d'], .int .u16 p2, .int .i64 d1, .int .i64 d2, .int .i64 d3] w
      fun e w' => e = .returned (.bool true) ∧ BW w w' := by
  have hu22 := Tryd.underlying22
  have hu23 := Tryd.underlying23
  have iO := size22 ho
  have iD := size22 hid
  have i1 := size23 a b c d
  have i2 := size23 a' b' c' d'
  have hb : BW w ((((w.alloc (.cells (C own).toArray 22)).alloc (.cells (C id).toArray 22)).alloc (.cells #[.int .u8 a, .int .u8 b, .int .u8 c, .int .u8 d] 23)).alloc (.cells #[.int .u8 a', .int .u8 b', .int .u8 c', .int .u8 d'] 23)) := lawW_bw w own id [.int .u8 a, .int .u8 b, .int .u8 c, .int .u8 d] [.int .u8 a', .int .u8 b', .int .u8 c', .int .u8 d']
  have rO : ((((w.alloc (.cells (C own).toArray 22)).alloc (.cells (C id).toArray 22)).alloc (.cells #[.int .u8 a, .int .u8 b, .int .u8 c, .int .u8 d] 23)).alloc (.cells #[.int .u8 a', .int .u8 b', .int .u8 c', .int .u8 d'] 23)).rangeAt w.heap.size 0 (C own) := lawW_own w own id [.int .u8 a, .int .u8 b, .int .u8 c, .int .u8 d] [.int .u8 a', .int .u8 b', .int .u8 c', .int .u8 d']
  have rD : ((((w.alloc (.cells (C own).toArray 22)).alloc (.cells (C id).toArray 22)).alloc (.cells #[.int .u8 a, .int .u8 b, .int .u8 c, .int .u8 d] 23)).alloc (.cells #[.int .u8 a', .int .u8 b', .int .u8 c', .int .u8 d'] 23)).rangeAt (w.heap.size + 1) 0 (C id) := lawW_id w own id [.int .u8 a, .int .u8 b, .int .u8 c, .int .u8 d] [.int .u8 a', .int .u8 b', .int .u8 c', .int .u8 d']
  have r1 : ((((w.alloc (.cells (C own).toArray 22)).alloc (.cells (C id).toArray 22)).alloc (.cells #[.int .u8 a, .int .u8 b, .int .u8 c, .int .u8 d] 23)).alloc (.cells #[.int .u8 a', .int .u8 b', .int .u8 c', .int .u8 d'] 23)).rangeAt (w.heap.size + 1 + 1) 0 [.int .u8 a, .int .u8 b, .int .u8 c, .int .u8 d] := lawW_i1 w own id [.int .u8 a, .int .u8 b, .int .u8 c, .int .u8 d] [.int .u8 a', .int .u8 b', .int .u8 c', .int .u8 d']
  have r2 : ((((w.alloc (.cells (C own).toArray 22)).alloc (.cells (C id).toArray 22)).alloc (.cells #[.int .u8 a, .int .u8 b, .int .u8 c, .int .u8 d] 23)).alloc (.cells #[.int .u8 a', .int .u8 b', .int .u8 c', .int .u8 d'] 23)).rangeAt (w.heap.size + 1 + 1 + 1) 0 [.int .u8 a', .int .u8 b', .int .u8 c', .int .u8 d'] := lawW_i2 w own id [.int .u8 a, .int .u8 b, .int .u8 c, .int .u8 d] [.int .u8 a', .int .u8 b', .int .u8 c', .int .u8 d']
  have e22 := eql22 id own hid ho
  have e23 : ∀ w, (binOp .eql 23 (.agg #[.int .u8 a, .int .u8 b, .int .u8 c, .int .u8 d]) (.agg #[.int .u8 a', .int .u8 b', .int .u8 c', .int .u8 d'])).run Tryd.prog w = .ok (.bool (([a, b, c, d] : List Int) == [a', b', c', d'])) w := eql23 [a, b, c, d] [a', b', c', d'] rfl rfl
  rw [show (id == own) = false by simpa using hne] at e22
  rw [show (([a, b, c, d] : List Int) == [a', b', c', d']) = false by rw [Bool.eq_false_iff]; intro h; exact hip (by simpa using h)] at e23
  have HNE : Hid (id ≠ own) := hne
  have HK : Hid (1 ≤ k) := by show 1 ≤ k; omega
  have HQ : Hid (¬ (lo4 a b c d = lo4 a' b' c' d' ∧ p1 = p2)) := fun h => hip (by
    obtain ⟨h1, h2, h3, h4⟩ := lo4_inj bb' bc bd bb'' bc' bd' h.1
    rw [h1, h2, h3, h4])
  clear hip hne
  go_enter Tryd.func3, Tryd.ntmps3
  go_wp2_with (first | with_reducible refine wpList_load_mid rfl _ _ rfl _ _ rfl _ _ rO hu22 rfl iO ?_ | with_reducible refine wpList_load_mid rfl _ _ rfl _ _ rfl _ _ rD hu22 rfl iD ?_ | with_reducible refine wpList_load_mid rfl _ _ rfl _ _ rfl _ _ r1 hu23 rfl i1 ?_ | with_reducible refine wpList_load_mid rfl _ _ rfl _ _ rfl _ _ r2 hu23 rfl i2 ?_)
  refine (new_any own k _ ho).mono ?_
  intro e w1 hN
  generalize ((((w.alloc (.cells (C own).toArray 22)).alloc (.cells (C id).toArray 22)).alloc (.cells #[.int .u8 a, .int .u8 b, .int .u8 c, .int .u8 d] 23)).alloc (.cells #[.int .u8 a', .int .u8 b', .int .u8 c', .int .u8 d'] 23)) = wB at rO rD r1 r2 hb hN
  obtain ⟨t, bb, ht, hbb, htb, rfl, hw1, hT, c0, c1, hth⟩ := hN
  have rD1 := hw1.range rD
  have r11 := hw1.range r1
  have r21 := hw1.range r2
  have hX1 := hb.then hw1
  have ltb : bb < w1.heap.size := World.block_lt_of_cell? w1 _ c0
  have ltt : t < w1.heap.size := World.block_lt_of_cell? w1 _ hT.bks
  have gew := hb.out.size
  have get1 : w.heap.size ≤ t := by omega
  have geb1 : w.heap.size ≤ bb := by omega
  clear rO rD r1 r2 ht hbb hw1 gew hb
  go_wp2_with fail
  refine (none_any _).mono ?_
  rintro e w2 ⟨rfl, hw2⟩
  have V2 := var39 w2 CZ CZ_len
  have R22 := V2.2
  have hX2 := hw2.then V2.1
  have s2 : (w2.alloc (.cells CZ.toArray 39)).there w2.heap.size 0 CZ.toArray.size := there_new w2 CZ 39 CZ.length (Nat.le_refl _)
  have hs39 : (Tryd.prog.info? 39).map (·.size) = some CZ.toArray.size := size39 CZ_len
  have h139 := all_oneCell_toArray CZ_one
  have rD2 := hX2.range rD1
  have r12 := hX2.range r11
  have r22 := hX2.range r21
  have zz2 := (hX1.then hX2).cell hz
  go_wp2_with (first | with_reducible refine wpList_alloc39 rfl rfl ?_ | with_reducible refine wpList_store_mid rfl _ _ _ rfl _ _ _ rfl rfl s2 hs39 h139 ?_ | with_reducible refine wpList_load_mid rfl _ _ rfl _ _ rfl _ _ rD2 hu22 rfl iD ?_ | with_reducible refine wpList_load_mid rfl _ _ rfl _ _ rfl _ _ r12 hu23 rfl i1 ?_)
  refine (contact_any id a b c d p1 z _ hid ba bb' bc bd zz2).mono ?_
  rintro e w3 ⟨rfl, hw3⟩
  have l1 := con_len id hid (lo4 a b c d) z p1
  have o1 := all_oneCell_toArray (con_one id (lo4 a b c d) z p1)
  have V3 := var39 w3 (C id ++ AP (lo4 a b c d) z p1) l1
  have R23 := V3.2
  have hX3 := hw3.then V3.1
  have s3 : (w3.alloc (.cells CZ.toArray 39)).there w3.heap.size 0 (C id ++ AP (lo4 a b c d) z p1).toArray.size := there_new w3 CZ 39 (C id ++ AP (lo4 a b c d) z p1).length (by rw [l1, CZ_len]; decide)
  have hs1 : (Tryd.prog.info? 39).map (·.size) = some (C id ++ AP (lo4 a b c d) z p1).toArray.size := size39 l1
  have rD3 := hX3.range rD2
  have r23 := hX3.range r22
  have zz3 := hX3.cell zz2
  have R223 := hX3.range R22
  have le2 := hw2.out.size
  have lt2 := Nat.lt_of_lt_of_le (show w2.heap.size < (w2.alloc (.cells CZ.toArray 39)).heap.size by simp) (show (w2.alloc (.cells CZ.toArray 39)).heap.size ≤ _ from (BX.setCells ((BW.self (w2.alloc (.cells CZ.toArray 39))).bx w2.heap.size) 0 CZ).size)
  have le3 := hw3.out.size
  clear V2 R22 s2 rD1 r11 r21 rD2 r12 r22
  generalize (w2.alloc (.cells CZ.toArray 39)).setCells w2.heap.size 0 CZ = W2 at *
  obtain ⟨k1, hk1⟩ : ∃ k1, k1 = (C id ++ AP (lo4 a b c d) z p1) := ⟨_, rfl⟩
  have HK1 : Hid (k1 = (C id ++ AP (lo4 a b c d) z p1)) := hk1
  rw [← hk1] at l1 o1 V3 R23 hX3 s3 hs1 rD3 r23 zz3 R223 ⊢
  clear hk1
  go_wp2_with (first | with_reducible refine wpList_alloc39 rfl rfl ?_ | with_reducible refine wpList_store_mid rfl _ _ _ rfl _ _ _ rfl rfl s3 hs1 o1 ?_ | with_reducible refine wpList_load_mid rfl _ _ rfl _ _ rfl _ _ rD3 hu22 rfl iD ?_ | with_reducible refine wpList_load_mid rfl _ _ rfl _ _ rfl _ _ r23 hu23 rfl i2 ?_)
  refine (contact_any id a' b' c' d' p2 z _ hid ba' bb'' bc' bd' zz3).mono ?_
  rintro e w4 ⟨rfl, hw4⟩
  have l2 := con_len id hid (lo4 a' b' c' d') z p2
  have o2 := all_oneCell_toArray (con_one id (lo4 a' b' c' d') z p2)
  have V4 := var39 w4 (C id ++ AP (lo4 a' b' c' d') z p2) l2
  have R24 := V4.2
  have hX4 := hw4.then V4.1
  have s4 : (w4.alloc (.cells CZ.toArray 39)).there w4.heap.size 0 (C id ++ AP (lo4 a' b' c' d') z p2).toArray.size := there_new w4 CZ 39 (C id ++ AP (lo4 a' b' c' d') z p2).length (by rw [l2, CZ_len]; decide)
  have hs2 : (Tryd.prog.info? 39).map (·.size) = some (C id ++ AP (lo4 a' b' c' d') z p2).toArray.size := size39 l2
  have R224 := hX4.range R223
  have R234 := hX4.range R23
  have lt3 := Nat.lt_of_lt_of_le (show w3.heap.size < (w3.alloc (.cells CZ.toArray 39)).heap.size by simp) (show (w3.alloc (.cells CZ.toArray 39)).heap.size ≤ _ from (BX.setCells ((BW.self (w3.alloc (.cells CZ.toArray 39))).bx w3.heap.size) 0 k1).size)
  have le4 := hw4.out.size
  clear V3 R23 s3 rD3 r23 zz3 R223
  generalize (w3.alloc (.cells CZ.toArray 39)).setCells w3.heap.size 0 k1 = W3 at *
  obtain ⟨k2, hk2⟩ : ∃ k2, k2 = (C id ++ AP (lo4 a' b' c' d') z p2) := ⟨_, rfl⟩
  have HK2 : Hid (k2 = (C id ++ AP (lo4 a' b' c' d') z p2)) := hk2
  rw [← hk2] at l2 o2 V4 R24 hX4 s4 hs2 R224 R234 ⊢
  clear hk2
  go_wp2_with (first | with_reducible refine wpList_alloc39 rfl rfl ?_ | with_reducible refine wpList_store_mid rfl _ _ _ rfl _ _ _ rfl rfl s4 hs2 o2 ?_)
  have hX234 := hX2.then (hX3.then hX4)
  have hTX := hX234.tab hT
  have c0X := hX234.cell c0
  have c1X := hX234.cell c1
  have thX := hX234.there hth
  have hbX := hX1.then hX234
  have lt4 := Nat.lt_of_lt_of_le (show w4.heap.size < (w4.alloc (.cells CZ.toArray 39)).heap.size by simp) (show (w4.alloc (.cells CZ.toArray 39)).heap.size ≤ _ from (BX.setCells ((BW.self (w4.alloc (.cells CZ.toArray 39))).bx w4.heap.size) 0 k2).size)
  have hu39 := Tryd.underlying39
  have n39 := neq39
  simp only [Act.put, List.getElem_toArray, List.getElem_cons_zero, List.getElem_cons_succ, List.setIfInBounds_toArray, List.set_cons_zero, List.set_cons_succ]
  clear hX234 hX2 hX3 hX4 V4 s4 hw2 hw3 hw4 hX1 hT c0 c1 hth zz2 hs1 hs2 o1 o2
  generalize (w4.alloc (.cells CZ.toArray 39)).setCells w4.heap.size 0 k2 = X at *
  have i22 : bb < w2.heap.size := by omega
  have j22 : t < w2.heap.size := by omega
  have i23 : w2.heap.size < w3.heap.size := by omega
  have i24 : w3.heap.size < w4.heap.size := by omega
  clear le2 lt2 le3 lt3 le4 ltb ltt
  generalize w2.heap.size = b22 at *
  generalize w3.heap.size = b23 at *
  generalize w4.heap.size = b24 at *
  clear W2 W3 w1 w2 w3 w4
  have ltX : bb < X.heap.size := by omega
  have hcon : ∀ w5, BW X w5 → Calls Tryd.prog 7 #[.pointer (some ⟨t, 0, none⟩), .agg k1.toArray, .agg #[.int .u64 (d1 % 1000000000), .int .i64 (d1 / 1000000000), .pointer none]] w5 fun e w' => NoneSaid e ∧ Placed w5 bb (C id ++ ER (lo4 a b c d) z p1 (d1 % 1000000000) (d1 / 1000000000) 0) w' := fun w5 bw5 => by
    have h := zz_first t bb own id k z (lo4 a b c d) p1 (d1 % 1000000000) (d1 / 1000000000) w5 (bw5.tab hTX) hid HNE.out HK.out (bw5.cell c0X) (bw5.cell c1X) (bw5.there thX)
    rw [← HK1.out] at h
    exact h
  have nnew : ∀ i, X.heap.size ≤ i → ¬ (i = bb) := fun i hi => by omega
  refine wp_cutN (fun qa qb => ((((((((((qa.put (some 58) (.pointer (some ⟨t, 0, none⟩))).put (some 59) (.agg k1.toArray)).put (some 60) (.int .i64 d1)).put (some 61) (.agg #[.int .u64 (d1 % 1000000000), .int .i64 (d1 / 1000000000), .pointer none])).put (some 62) (.tuple #[.agg CZ.toArray, .bool false])).put (some 57) (.tuple #[.agg CZ.toArray, .bool false])).put (some 63) (.agg CZ.toArray)).put (some 64) (.bool false)).put (some 25) (.pointer (some ⟨qb, 0, none⟩))).put (some 26) (.bool false))) (fun qb W => Placed X bb (C id ++ ER (lo4 a b c d) z p1 (d1 % 1000000000) (d1 / 1000000000) 0) W ∧ W.rangeAt qb 0 CZ) ?_ ?_
  · refine wp_region_held_drew (S := fun w' => w'.rangeAt b23 0 k1) (by kernel_rfl) (by simpa using R234) (fun hH => ?_)
    refine wpAnyH_take (i := 0) (v := ?_) rfl (by kernel_rfl) (by kernel_rfl) (by kernel_rfl) (fun _ _ _ h => by cases h.1) (Or.inl ⟨by rfl, ?_⟩) hH ?_
    rotate_left
    · (intro w' hS; go_simp; with_reducible rfl)
    simp only [Act.put, List.getElem_toArray, List.getElem_cons_zero, List.getElem_cons_succ, List.setIfInBounds_toArray, List.set_cons_zero, List.set_cons_succ]
    refine wpAnyH_take (i := 1) rfl (by kernel_rfl) (by kernel_rfl) (by kernel_rfl) (fun _ _ _ h => by cases h.1) (yieldsIf_load_mid (by rfl) _ _ rfl _ _ rfl k1 _ (fun w' hS => hS) hu39 rfl (size39 l1)) hH ?_
    simp only [Act.put, List.getElem_toArray, List.getElem_cons_zero, List.getElem_cons_succ, List.setIfInBounds_toArray, List.set_cons_zero, List.set_cons_succ]
    refine wpAnyH_take (i := 2) (v := ?_) rfl (by kernel_rfl) (by kernel_rfl) (by kernel_rfl) (fun _ _ _ h => by cases h.1) (Or.inl ⟨by rfl, ?_⟩) hH ?_
    rotate_left
    · (intro w' hS; go_simp; with_reducible rfl)
    simp only [Act.put, List.getElem_toArray, List.getElem_cons_zero, List.getElem_cons_succ, List.setIfInBounds_toArray, List.set_cons_zero, List.set_cons_succ]
    refine wpAnyH_ready (rs := [3, 8]) (by kernel_rfl) (by simp) ?_
    refine AllReadyH.cons rfl (fun K hK => ?_) (AllReadyH.cons rfl (fun K hK => ?_) AllReadyH.nil)
    · go_simp
      refine (at_any d1 _ hd1.1 hd1.2).mono ?_
      rintro e w5 ⟨rfl, hw5⟩
      refine hK.out _ _ ((BW.of hw5).range hH) (fun hH5 => ?_)
      clear hK K
      have b5 := ((BW.of (Below.refl X.heap.size X).drew : BW X X.drew)).then (BW.of hw5)
      refine wpAnyH_ready (rs := [4, 8]) (by kernel_rfl) (by simp) ?_
      refine AllReadyH.cons rfl (fun K hK => ?_) (AllReadyH.cons rfl (fun K hK => ?_) AllReadyH.nil)
      · go_simp
        refine (hcon _ (b5)).mono ?_
        rintro e w6 ⟨he, hP⟩
        obtain rfl : e = _ := he
        refine hK.out _ _ ((bears_placed bb (C id ++ ER (lo4 a b c d) z p1 (d1 % 1000000000) (d1 / 1000000000) 0)).range hP (show ¬ (b23 = bb) by omega) hH5) (fun hH6 => ?_)
        clear hK K
        refine wpAnyH_take (i := 5) (v := ?_) rfl (by kernel_rfl) (by kernel_rfl) (by kernel_rfl) (fun _ _ _ h => by cases h.1) (Or.inl ⟨by rfl, ?_⟩) hH6 ?_
        rotate_left
        · (intro w' hS; go_simp; with_reducible rfl)
        simp only [Act.put, List.getElem_toArray, List.getElem_cons_zero, List.getElem_cons_succ, List.setIfInBounds_toArray, List.set_cons_zero, List.set_cons_succ]
        refine wpAnyH_take (i := 6) (v := ?_) rfl (by kernel_rfl) (by kernel_rfl) (by kernel_rfl) (fun _ _ _ h => by cases h.1) (Or.inl ⟨by rfl, ?_⟩) hH6 ?_
        rotate_left
        · (intro w' hS; go_simp; with_reducible rfl)
        simp only [Act.put, List.getElem_toArray, List.getElem_cons_zero, List.getElem_cons_succ, List.setIfInBounds_toArray, List.set_cons_zero, List.set_cons_succ]
        refine wpAnyH_take (i := 7) (v := ?_) rfl (by kernel_rfl) (by kernel_rfl) (by kernel_rfl) (fun _ _ _ h => by cases h.1) (Or.inl ⟨by rfl, ?_⟩) hH6 ?_
        rotate_left
        · (intro w' hS; go_simp; with_reducible rfl)
        simp only [Act.put, List.getElem_toArray, List.getElem_cons_zero, List.getElem_cons_succ, List.setIfInBounds_toArray, List.set_cons_zero, List.set_cons_succ]
        refine wpAnyH_ready (rs := [8]) (by kernel_rfl) (by simp) ?_
        refine AllReadyH.cons rfl (fun K hK => ?_) AllReadyH.nil
        rw [if_pos (by rfl)]
        refine wp_alloc39 rfl ?_
        refine hK.out _ _ ((BW.new _ _).range hH6) (fun hH7 => ?_)
        clear hK K
        simp only [Act.put, List.getElem_toArray, List.getElem_cons_zero, List.getElem_cons_succ, List.setIfInBounds_toArray, List.set_cons_zero, List.set_cons_succ]
        refine wpAnyH_ready (rs := [9]) (by kernel_rfl) (by simp) ?_
        refine AllReadyH.cons rfl (fun K hK => ?_) AllReadyH.nil
        rw [if_pos (by rfl)]
        refine wp_store_mid _ _ _ rfl _ _ CZ.toArray rfl rfl (there_new w6 CZ 39 CZ.length (Nat.le_refl _)) hs39 h139 ?_
        refine hK.out _ _ ((var39 w6 CZ CZ_len).1.range hH6) (fun hH8 => ?_)
        clear hK K
        simp only [Act.put, List.getElem_toArray, List.getElem_cons_zero, List.getElem_cons_succ, List.setIfInBounds_toArray, List.set_cons_zero, List.set_cons_succ]
        refine wpAnyH_take (i := 10) (v := ?_) rfl (by kernel_rfl) (by kernel_rfl) (by kernel_rfl) (fun _ _ _ h => by cases h.1) (Or.inl ⟨by rfl, ?_⟩) hH8 ?_
        rotate_left
        · (intro w' hS; go_simp; with_reducible rfl)
        simp only [Act.put, List.getElem_toArray, List.getElem_cons_zero, List.getElem_cons_succ, List.setIfInBounds_toArray, List.set_cons_zero, List.set_cons_succ]
        refine wpAnyH_done (by kernel_rfl) ?_ _
        exact ⟨rfl, w6.heap.size, by first | rfl | simp only [Act.put, List.getElem_toArray, List.getElem_cons_zero, List.getElem_cons_succ, List.setIfInBounds_toArray, List.set_cons_zero, List.set_cons_succ], (bears_placed bb (C id ++ ER (lo4 a b c d) z p1 (d1 % 1000000000) (d1 / 1000000000) 0)).late hP b5⟩
      · rw [if_pos (by rfl)]
        refine wp_alloc39 rfl ?_
        refine hK.out _ _ ((BW.new _ _).range hH5) (fun hH5a => ?_)
        clear hK K
        simp only [Act.put, List.getElem_toArray, List.getElem_cons_zero, List.getElem_cons_succ, List.setIfInBounds_toArray, List.set_cons_zero, List.set_cons_succ]
        have b5a := b5.then (BW.new w5 (.cells CZ.toArray 39))
        have t5 := there_new w5 CZ 39 24 (by rw [CZ_len]; decide)
        refine wpAnyH_ready (rs := [4]) (by kernel_rfl) (by simp) ?_
        refine AllReadyH.cons rfl (fun K hK => ?_) AllReadyH.nil
        go_simp
        refine (hcon _ (b5a)).mono ?_
        rintro e w6 ⟨he, hP⟩
        obtain rfl : e = _ := he
        refine hK.out _ _ ((bears_placed bb (C id ++ ER (lo4 a b c d) z p1 (d1 % 1000000000) (d1 / 1000000000) 0)).range hP (show ¬ (b23 = bb) by omega) hH5a) (fun hH6 => ?_)
        clear hK K
        refine wpAnyH_take (i := 5) (v := ?_) rfl (by kernel_rfl) (by kernel_rfl) (by kernel_rfl) (fun _ _ _ h => by cases h.1) (Or.inl ⟨by rfl, ?_⟩) hH6 ?_
        rotate_left
        · (intro w' hS; go_simp; with_reducible rfl)
        simp only [Act.put, List.getElem_toArray, List.getElem_cons_zero, List.getElem_cons_succ, List.setIfInBounds_toArray, List.set_cons_zero, List.set_cons_succ]
        refine wpAnyH_take (i := 6) (v := ?_) rfl (by kernel_rfl) (by kernel_rfl) (by kernel_rfl) (fun _ _ _ h => by cases h.1) (Or.inl ⟨by rfl, ?_⟩) hH6 ?_
        rotate_left
        · (intro w' hS; go_simp; with_reducible rfl)
        simp only [Act.put, List.getElem_toArray, List.getElem_cons_zero, List.getElem_cons_succ, List.setIfInBounds_toArray, List.set_cons_zero, List.set_cons_succ]
        refine wpAnyH_take (i := 7) (v := ?_) rfl (by kernel_rfl) (by kernel_rfl) (by kernel_rfl) (fun _ _ _ h => by cases h.1) (Or.inl ⟨by rfl, ?_⟩) hH6 ?_
        rotate_left
        · (intro w' hS; go_simp; with_reducible rfl)
        simp only [Act.put, List.getElem_toArray, List.getElem_cons_zero, List.getElem_cons_succ, List.setIfInBounds_toArray, List.set_cons_zero, List.set_cons_succ]
        have hE := (bears_placed bb (C id ++ ER (lo4 a b c d) z p1 (d1 % 1000000000) (d1 / 1000000000) 0)).early hP b5a b5.out.size (nnew _ b5.out.size) t5
        refine wpAnyH_ready (rs := [9]) (by kernel_rfl) (by simp) ?_
        refine AllReadyH.cons rfl (fun K hK => ?_) AllReadyH.nil
        rw [if_pos (by rfl)]
        refine wp_store_mid _ _ _ rfl _ _ CZ.toArray rfl rfl hE.1 hs39 h139 ?_
        refine hK.out _ _ ((BX.setCells ((BW.self w6).bx _) 0 CZ).range (by have := b5.out.size; omega) hH6) (fun hH8 => ?_)
        clear hK K
        simp only [Act.put, List.getElem_toArray, List.getElem_cons_zero, List.getElem_cons_succ, List.setIfInBounds_toArray, List.set_cons_zero, List.set_cons_succ]
        refine wpAnyH_take (i := 10) (v := ?_) rfl (by kernel_rfl) (by kernel_rfl) (by kernel_rfl) (fun _ _ _ h => by cases h.1) (Or.inl ⟨by rfl, ?_⟩) hH8 ?_
        rotate_left
        · (intro w' hS; go_simp; with_reducible rfl)
        simp only [Act.put, List.getElem_toArray, List.getElem_cons_zero, List.getElem_cons_succ, List.setIfInBounds_toArray, List.set_cons_zero, List.set_cons_succ]
        refine wpAnyH_done (by kernel_rfl) ?_ _
        exact ⟨rfl, w5.heap.size, by first | rfl | simp only [Act.put, List.getElem_toArray, List.getElem_cons_zero, List.getElem_cons_succ, List.setIfInBounds_toArray, List.set_cons_zero, List.set_cons_succ], hE.2⟩
    · rw [if_pos (by rfl)]
      refine wp_alloc39 rfl ?_
      refine hK.out _ _ ((BW.new _ _).range hH) (fun hHa => ?_)
      clear hK K
      simp only [Act.put, List.getElem_toArray, List.getElem_cons_zero, List.getElem_cons_succ, List.setIfInBounds_toArray, List.set_cons_zero, List.set_cons_succ]
      have b0 : BW X (X.drew.alloc (.cells CZ.toArray 39)) := (BW.of (Below.refl X.heap.size X).drew : BW X X.drew).then (BW.new _ _)
      have t0 := there_new X.drew CZ 39 24 (by rw [CZ_len]; decide)
      refine wpAnyH_ready (rs := [3]) (by kernel_rfl) (by simp) ?_
      refine AllReadyH.cons rfl (fun K hK => ?_) AllReadyH.nil
      go_simp
      refine (at_any d1 _ hd1.1 hd1.2).mono ?_
      rintro e w5 ⟨rfl, hw5⟩
      refine hK.out _ _ ((BW.of hw5).range hHa) (fun hH5 => ?_)
      clear hK K
      have b5 := (b0).then (BW.of hw5)
      have t5 := (BW.of hw5).there t0
      refine wpAnyH_ready (rs := [4]) (by kernel_rfl) (by simp) ?_
      refine AllReadyH.cons rfl (fun K hK => ?_) AllReadyH.nil
      go_simp
      refine (hcon _ (b5)).mono ?_
      rintro e w6 ⟨he, hP⟩
      obtain rfl : e = _ := he
      refine hK.out _ _ ((bears_placed bb (C id ++ ER (lo4 a b c d) z p1 (d1 % 1000000000) (d1 / 1000000000) 0)).range hP (show ¬ (b23 = bb) by omega) hH5) (fun hH6 => ?_)
      clear hK K
      refine wpAnyH_take (i := 5) (v := ?_) rfl (by kernel_rfl) (by kernel_rfl) (by kernel_rfl) (fun _ _ _ h => by cases h.1) (Or.inl ⟨by rfl, ?_⟩) hH6 ?_
      rotate_left
      · (intro w' hS; go_simp; with_reducible rfl)
      simp only [Act.put, List.getElem_toArray, List.getElem_cons_zero, List.getElem_cons_succ, List.setIfInBounds_toArray, List.set_cons_zero, List.set_cons_succ]
      refine wpAnyH_take (i := 6) (v := ?_) rfl (by kernel_rfl) (by kernel_rfl) (by kernel_rfl) (fun _ _ _ h => by cases h.1) (Or.inl ⟨by rfl, ?_⟩) hH6 ?_
      rotate_left
      · (intro w' hS; go_simp; with_reducible rfl)
      simp only [Act.put, List.getElem_toArray, List.getElem_cons_zero, List.getElem_cons_succ, List.setIfInBounds_toArray, List.set_cons_zero, List.set_cons_succ]
      refine wpAnyH_take (i := 7) (v := ?_) rfl (by kernel_rfl) (by kernel_rfl) (by kernel_rfl) (fun _ _ _ h => by cases h.1) (Or.inl ⟨by rfl, ?_⟩) hH6 ?_
      rotate_left
      · (intro w' hS; go_simp; with_reducible rfl)
      simp only [Act.put, List.getElem_toArray, List.getElem_cons_zero, List.getElem_cons_succ, List.setIfInBounds_toArray, List.set_cons_zero, List.set_cons_succ]
      have hE := (bears_placed bb (C id ++ ER (lo4 a b c d) z p1 (d1 % 1000000000) (d1 / 1000000000) 0)).early hP b5 (Nat.le_refl _) (nnew _ (Nat.le_refl _)) t5
      refine wpAnyH_ready (rs := [9]) (by kernel_rfl) (by simp) ?_
      refine AllReadyH.cons rfl (fun K hK => ?_) AllReadyH.nil
      rw [if_pos (by rfl)]
      refine wp_store_mid _ _ _ rfl _ _ CZ.toArray rfl rfl hE.1 hs39 h139 ?_
      refine hK.out _ _ ((BX.setCells ((BW.self w6).bx _) 0 CZ).range (by have : X.drew.heap.size = X.heap.size := rfl; omega) hH6) (fun hH8 => ?_)
      clear hK K
      simp only [Act.put, List.getElem_toArray, List.getElem_cons_zero, List.getElem_cons_succ, List.setIfInBounds_toArray, List.set_cons_zero, List.set_cons_succ]
      refine wpAnyH_take (i := 10) (v := ?_) rfl (by kernel_rfl) (by kernel_rfl) (by kernel_rfl) (fun _ _ _ h => by cases h.1) (Or.inl ⟨by rfl, ?_⟩) hH8 ?_
      rotate_left
      · (intro w' hS; go_simp; with_reducible rfl)
      simp only [Act.put, List.getElem_toArray, List.getElem_cons_zero, List.getElem_cons_succ, List.setIfInBounds_toArray, List.set_cons_zero, List.set_cons_succ]
      refine wpAnyH_done (by kernel_rfl) ?_ _
      exact ⟨rfl, X.drew.heap.size, by first | rfl | simp only [Act.put, List.getElem_toArray, List.getElem_cons_zero, List.getElem_cons_succ, List.setIfInBounds_toArray, List.set_cons_zero, List.set_cons_succ], hE.2⟩
  rintro b25 X1 ⟨hP, R25⟩
  simp only [Act.put, List.getElem_toArray, List.getElem_cons_zero, List.getElem_cons_succ, List.setIfInBounds_toArray, List.set_cons_zero, List.set_cons_succ]
  obtain ⟨hBX, thb, g, cap, hg, cg, rg, tg⟩ := hP
  have T1 := hBX.tab htb hTX
  have Q22 := hBX.range (show b22 ≠ bb by omega) R224
  have Q23 := hBX.range (show b23 ≠ bb by omega) R234
  have Q24 := hBX.range (show b24 ≠ bb by omega) R24
  have hbX1 : BW w X1 := hbX.bx_then hBX geb1
  have ngb : g ≠ bb := by omega
  have ntg : t ≠ g := by omega
  have ltg : g < X1.heap.size := (there_at tg 0 (by omega)).elim fun _ h => World.block_lt_of_cell? X1 _ h
  have lt1 : b24 < X1.heap.size := Nat.lt_of_lt_of_le lt4 hBX.size
  have geg : w.heap.size ≤ g := by have := hbX.out.size; omega
  have g22 : b22 ≠ g := by omega
  have g23 : b23 ≠ g := by omega
  have g24 : b24 ≠ g := by omega
  clear hcon nnew hTX c0X c1X thX hBX R224 R234 R24 hbX hg ltX lt4
  have hiZ : (Tryd.prog.info? 39).map (·.size) = some CZ.length := size39 CZ_len
  have hi1 := size39 l1
  have hi2 := size39 l2
  clear X
  go_wp2_with (first | with_reducible refine wpList_load_mid rfl _ _ rfl _ _ rfl _ _ R25 hu39 rfl hiZ ?_ | with_reducible refine wpList_load_mid rfl _ _ rfl _ _ rfl _ _ Q22 hu39 rfl hiZ ?_)
  clear R25
  have hcon : ∀ w5, BW X1 w5 → Calls Tryd.prog 7 #[.pointer (some ⟨t, 0, none⟩), .agg k2.toArray, .agg #[.int .u64 (d2 % 1000000000), .int .i64 (d2 / 1000000000), .pointer none]] w5 fun e w' => NoneSaid e ∧ BW w5 w' := fun w5 bw5 => by
    have h := zz_other t bb g cap own id k z (lo4 a b c d) p1 (lo4 a' b' c' d') p2 (d2 % 1000000000) (d2 / 1000000000) [.int .u64 (d1 % 1000000000), .int .i64 (d1 / 1000000000), .pointer none, .int .i64 0] w5 (bw5.tab T1) hid HNE.out (bw5.cell cg) (bw5.range rg) rfl HQ.out
    rw [← HK2.out] at h
    exact h
  have nnew : ∀ i, X1.heap.size ≤ i → ¬ False := fun i hi => not_false
  refine wp_cutN (fun qa qb => ((((((((((qa.put (some 72) (.pointer (some ⟨t, 0, none⟩))).put (some 73) (.agg k2.toArray)).put (some 74) (.int .i64 d2)).put (some 75) (.agg #[.int .u64 (d2 % 1000000000), .int .i64 (d2 / 1000000000), .pointer none])).put (some 76) (.tuple #[.agg CZ.toArray, .bool false])).put (some 71) (.tuple #[.agg CZ.toArray, .bool false])).put (some 77) (.agg CZ.toArray)).put (some 78) (.bool false)).put (some 27) (.pointer (some ⟨qb, 0, none⟩))).put (some 28) (.bool false))) (fun qb W => BW X1 W ∧ W.rangeAt qb 0 CZ) ?_ ?_
  · refine wp_region_held_drew (S := fun w' => w'.rangeAt b24 0 k2) (by kernel_rfl) (by simpa using Q24) (fun hH => ?_)
    refine wpAnyH_take (i := 0) (v := ?_) rfl (by kernel_rfl) (by kernel_rfl) (by kernel_rfl) (fun _ _ _ h => by cases h.1) (Or.inl ⟨by rfl, ?_⟩) hH ?_
    rotate_left
    · (intro w' hS; go_simp; with_reducible rfl)
    simp only [Act.put, List.getElem_toArray, List.getElem_cons_zero, List.getElem_cons_succ, List.setIfInBounds_toArray, List.set_cons_zero, List.set_cons_succ]
    refine wpAnyH_take (i := 1) rfl (by kernel_rfl) (by kernel_rfl) (by kernel_rfl) (fun _ _ _ h => by cases h.1) (yieldsIf_load_mid (by rfl) _ _ rfl _ _ rfl k2 _ (fun w' hS => hS) hu39 rfl (size39 l2)) hH ?_
    simp only [Act.put, List.getElem_toArray, List.getElem_cons_zero, List.getElem_cons_succ, List.setIfInBounds_toArray, List.set_cons_zero, List.set_cons_succ]
    refine wpAnyH_take (i := 2) (v := ?_) rfl (by kernel_rfl) (by kernel_rfl) (by kernel_rfl) (fun _ _ _ h => by cases h.1) (Or.inl ⟨by rfl, ?_⟩) hH ?_
    rotate_left
    · (intro w' hS; go_simp; with_reducible rfl)
    simp only [Act.put, List.getElem_toArray, List.getElem_cons_zero, List.getElem_cons_succ, List.setIfInBounds_toArray, List.set_cons_zero, List.set_cons_succ]
    refine wpAnyH_ready (rs := [3, 8]) (by kernel_rfl) (by simp) ?_
    refine AllReadyH.cons rfl (fun K hK => ?_) (AllReadyH.cons rfl (fun K hK => ?_) AllReadyH.nil)
    · go_simp
      refine (at_any d2 _ hd2.1 hd2.2).mono ?_
      rintro e w5 ⟨rfl, hw5⟩
      refine hK.out _ _ ((BW.of hw5).range hH) (fun hH5 => ?_)
      clear hK K
      have b5 := ((BW.of (Below.refl X1.heap.size X1).drew : BW X1 X1.drew)).then (BW.of hw5)
      refine wpAnyH_ready (rs := [4, 8]) (by kernel_rfl) (by simp) ?_
      refine AllReadyH.cons rfl (fun K hK => ?_) (AllReadyH.cons rfl (fun K hK => ?_) AllReadyH.nil)
      · go_simp
        refine (hcon _ (b5)).mono ?_
        rintro e w6 ⟨he, hP⟩
        obtain rfl : e = _ := he
        refine hK.out _ _ ((bears_bw).range hP (not_false : ¬ False) hH5) (fun hH6 => ?_)
        clear hK K
        refine wpAnyH_take (i := 5) (v := ?_) rfl (by kernel_rfl) (by kernel_rfl) (by kernel_rfl) (fun _ _ _ h => by cases h.1) (Or.inl ⟨by rfl, ?_⟩) hH6 ?_
        rotate_left
        · (intro w' hS; go_simp; with_reducible rfl)
        simp only [Act.put, List.getElem_toArray, List.getElem_cons_zero, List.getElem_cons_succ, List.setIfInBounds_toArray, List.set_cons_zero, List.set_cons_succ]
        refine wpAnyH_take (i := 6) (v := ?_) rfl (by kernel_rfl) (by kernel_rfl) (by kernel_rfl) (fun _ _ _ h => by cases h.1) (Or.inl ⟨by rfl, ?_⟩) hH6 ?_
        rotate_left
        · (intro w' hS; go_simp; with_reducible rfl)
        simp only [Act.put, List.getElem_toArray, List.getElem_cons_zero, List.getElem_cons_succ, List.setIfInBounds_toArray, List.set_cons_zero, List.set_cons_succ]
        refine wpAnyH_take (i := 7) (v := ?_) rfl (by kernel_rfl) (by kernel_rfl) (by kernel_rfl) (fun _ _ _ h => by cases h.1) (Or.inl ⟨by rfl, ?_⟩) hH6 ?_
        rotate_left
        · (intro w' hS; go_simp; with_reducible rfl)
        simp only [Act.put, List.getElem_toArray, List.getElem_cons_zero, List.getElem_cons_succ, List.setIfInBounds_toArray, List.set_cons_zero, List.set_cons_succ]
        refine wpAnyH_ready (rs := [8]) (by kernel_rfl) (by simp) ?_
        refine AllReadyH.cons rfl (fun K hK => ?_) AllReadyH.nil
        rw [if_pos (by rfl)]
        refine wp_alloc39 rfl ?_
        refine hK.out _ _ ((BW.new _ _).range hH6) (fun hH7 => ?_)
        clear hK K
        simp only [Act.put, List.getElem_toArray, List.getElem_cons_zero, List.getElem_cons_succ, List.setIfInBounds_toArray, List.set_cons_zero, List.set_cons_succ]
        refine wpAnyH_ready (rs := [9]) (by kernel_rfl) (by simp) ?_
        refine AllReadyH.cons rfl (fun K hK => ?_) AllReadyH.nil
        rw [if_pos (by rfl)]
        refine wp_store_mid _ _ _ rfl _ _ CZ.toArray rfl rfl (there_new w6 CZ 39 CZ.length (Nat.le_refl _)) hs39 h139 ?_
        refine hK.out _ _ ((var39 w6 CZ CZ_len).1.range hH6) (fun hH8 => ?_)
        clear hK K
        simp only [Act.put, List.getElem_toArray, List.getElem_cons_zero, List.getElem_cons_succ, List.setIfInBounds_toArray, List.set_cons_zero, List.set_cons_succ]
        refine wpAnyH_take (i := 10) (v := ?_) rfl (by kernel_rfl) (by kernel_rfl) (by kernel_rfl) (fun _ _ _ h => by cases h.1) (Or.inl ⟨by rfl, ?_⟩) hH8 ?_
        rotate_left
        · (intro w' hS; go_simp; with_reducible rfl)
        simp only [Act.put, List.getElem_toArray, List.getElem_cons_zero, List.getElem_cons_succ, List.setIfInBounds_toArray, List.set_cons_zero, List.set_cons_succ]
        refine wpAnyH_done (by kernel_rfl) ?_ _
        exact ⟨rfl, w6.heap.size, by first | rfl | simp only [Act.put, List.getElem_toArray, List.getElem_cons_zero, List.getElem_cons_succ, List.setIfInBounds_toArray, List.set_cons_zero, List.set_cons_succ], (bears_bw).late hP b5⟩
      · rw [if_pos (by rfl)]
        refine wp_alloc39 rfl ?_
        refine hK.out _ _ ((BW.new _ _).range hH5) (fun hH5a => ?_)
        clear hK K
        simp only [Act.put, List.getElem_toArray, List.getElem_cons_zero, List.getElem_cons_succ, List.setIfInBounds_toArray, List.set_cons_zero, List.set_cons_succ]
        have b5a := b5.then (BW.new w5 (.cells CZ.toArray 39))
        have t5 := there_new w5 CZ 39 24 (by rw [CZ_len]; decide)
        refine wpAnyH_ready (rs := [4]) (by kernel_rfl) (by simp) ?_
        refine AllReadyH.cons rfl (fun K hK => ?_) AllReadyH.nil
        go_simp
        refine (hcon _ (b5a)).mono ?_
        rintro e w6 ⟨he, hP⟩
        obtain rfl : e = _ := he
        refine hK.out _ _ ((bears_bw).range hP (not_false : ¬ False) hH5a) (fun hH6 => ?_)
        clear hK K
        refine wpAnyH_take (i := 5) (v := ?_) rfl (by kernel_rfl) (by kernel_rfl) (by kernel_rfl) (fun _ _ _ h => by cases h.1) (Or.inl ⟨by rfl, ?_⟩) hH6 ?_
        rotate_left
        · (intro w' hS; go_simp; with_reducible rfl)
        simp only [Act.put, List.getElem_toArray, List.getElem_cons_zero, List.getElem_cons_succ, List.setIfInBounds_toArray, List.set_cons_zero, List.set_cons_succ]
        refine wpAnyH_take (i := 6) (v := ?_) rfl (by kernel_rfl) (by kernel_rfl) (by kernel_rfl) (fun _ _ _ h => by cases h.1) (Or.inl ⟨by rfl, ?_⟩) hH6 ?_
        rotate_left
        · (intro w' hS; go_simp; with_reducible rfl)
        simp only [Act.put, List.getElem_toArray, List.getElem_cons_zero, List.getElem_cons_succ, List.setIfInBounds_toArray, List.set_cons_zero, List.set_cons_succ]
        refine wpAnyH_take (i := 7) (v := ?_) rfl (by kernel_rfl) (by kernel_rfl) (by kernel_rfl) (fun _ _ _ h => by cases h.1) (Or.inl ⟨by rfl, ?_⟩) hH6 ?_
        rotate_left
        · (intro w' hS; go_simp; with_reducible rfl)
        simp only [Act.put, List.getElem_toArray, List.getElem_cons_zero, List.getElem_cons_succ, List.setIfInBounds_toArray, List.set_cons_zero, List.set_cons_succ]
        have hE := (bears_bw).early hP b5a b5.out.size (nnew _ b5.out.size) t5
        refine wpAnyH_ready (rs := [9]) (by kernel_rfl) (by simp) ?_
        refine AllReadyH.cons rfl (fun K hK => ?_) AllReadyH.nil
        rw [if_pos (by rfl)]
        refine wp_store_mid _ _ _ rfl _ _ CZ.toArray rfl rfl hE.1 hs39 h139 ?_
        refine hK.out _ _ ((BX.setCells ((BW.self w6).bx _) 0 CZ).range (by have := b5.out.size; omega) hH6) (fun hH8 => ?_)
        clear hK K
        simp only [Act.put, List.getElem_toArray, List.getElem_cons_zero, List.getElem_cons_succ, List.setIfInBounds_toArray, List.set_cons_zero, List.set_cons_succ]
        refine wpAnyH_take (i := 10) (v := ?_) rfl (by kernel_rfl) (by kernel_rfl) (by kernel_rfl) (fun _ _ _ h => by cases h.1) (Or.inl ⟨by rfl, ?_⟩) hH8 ?_
        rotate_left
        · (intro w' hS; go_simp; with_reducible rfl)
        simp only [Act.put, List.getElem_toArray, List.getElem_cons_zero, List.getElem_cons_succ, List.setIfInBounds_toArray, List.set_cons_zero, List.set_cons_succ]
        refine wpAnyH_done (by kernel_rfl) ?_ _
        exact ⟨rfl, w5.heap.size, by first | rfl | simp only [Act.put, List.getElem_toArray, List.getElem_cons_zero, List.getElem_cons_succ, List.setIfInBounds_toArray, List.set_cons_zero, List.set_cons_succ], hE.2⟩
    · rw [if_pos (by rfl)]
      refine wp_alloc39 rfl ?_
      refine hK.out _ _ ((BW.new _ _).range hH) (fun hHa => ?_)
      clear hK K
      simp only [Act.put, List.getElem_toArray, List.getElem_cons_zero, List.getElem_cons_succ, List.setIfInBounds_toArray, List.set_cons_zero, List.set_cons_succ]
      have b0 : BW X1 (X1.drew.alloc (.cells CZ.toArray 39)) := (BW.of (Below.refl X1.heap.size X1).drew : BW X1 X1.drew).then (BW.new _ _)
      have t0 := there_new X1.drew CZ 39 24 (by rw [CZ_len]; decide)
      refine wpAnyH_ready (rs := [3]) (by kernel_rfl) (by simp) ?_
      refine AllReadyH.cons rfl (fun K hK => ?_) AllReadyH.nil
      go_simp
      refine (at_any d2 _ hd2.1 hd2.2).mono ?_
      rintro e w5 ⟨rfl, hw5⟩
      refine hK.out _ _ ((BW.of hw5).range hHa) (fun hH5 => ?_)
      clear hK K
      have b5 := (b0).then (BW.of hw5)
      have t5 := (BW.of hw5).there t0
      refine wpAnyH_ready (rs := [4]) (by kernel_rfl) (by simp) ?_
      refine AllReadyH.cons rfl (fun K hK => ?_) AllReadyH.nil
      go_simp
      refine (hcon _ (b5)).mono ?_
      rintro e w6 ⟨he, hP⟩
      obtain rfl : e = _ := he
      refine hK.out _ _ ((bears_bw).range hP (not_false : ¬ False) hH5) (fun hH6 => ?_)
      clear hK K
      refine wpAnyH_take (i := 5) (v := ?_) rfl (by kernel_rfl) (by kernel_rfl) (by kernel_rfl) (fun _ _ _ h => by cases h.1) (Or.inl ⟨by rfl, ?_⟩) hH6 ?_
      rotate_left
      · (intro w' hS; go_simp; with_reducible rfl)
      simp only [Act.put, List.getElem_toArray, List.getElem_cons_zero, List.getElem_cons_succ, List.setIfInBounds_toArray, List.set_cons_zero, List.set_cons_succ]
      refine wpAnyH_take (i := 6) (v := ?_) rfl (by kernel_rfl) (by kernel_rfl) (by kernel_rfl) (fun _ _ _ h => by cases h.1) (Or.inl ⟨by rfl, ?_⟩) hH6 ?_
      rotate_left
      · (intro w' hS; go_simp; with_reducible rfl)
      simp only [Act.put, List.getElem_toArray, List.getElem_cons_zero, List.getElem_cons_succ, List.setIfInBounds_toArray, List.set_cons_zero, List.set_cons_succ]
      refine wpAnyH_take (i := 7) (v := ?_) rfl (by kernel_rfl) (by kernel_rfl) (by kernel_rfl) (fun _ _ _ h => by cases h.1) (Or.inl ⟨by rfl, ?_⟩) hH6 ?_
      rotate_left
      · (intro w' hS; go_simp; with_reducible rfl)
      simp only [Act.put, List.getElem_toArray, List.getElem_cons_zero, List.getElem_cons_succ, List.setIfInBounds_toArray, List.set_cons_zero, List.set_cons_succ]
      have hE := (bears_bw).early hP b5 (Nat.le_refl _) (nnew _ (Nat.le_refl _)) t5
      refine wpAnyH_ready (rs := [9]) (by kernel_rfl) (by simp) ?_
      refine AllReadyH.cons rfl (fun K hK => ?_) AllReadyH.nil
      rw [if_pos (by rfl)]
      refine wp_store_mid _ _ _ rfl _ _ CZ.toArray rfl rfl hE.1 hs39 h139 ?_
      refine hK.out _ _ ((BX.setCells ((BW.self w6).bx _) 0 CZ).range (by have : X1.drew.heap.size = X1.heap.size := rfl; omega) hH6) (fun hH8 => ?_)
      clear hK K
      simp only [Act.put, List.getElem_toArray, List.getElem_cons_zero, List.getElem_cons_succ, List.setIfInBounds_toArray, List.set_cons_zero, List.set_cons_succ]
      refine wpAnyH_take (i := 10) (v := ?_) rfl (by kernel_rfl) (by kernel_rfl) (by kernel_rfl) (fun _ _ _ h => by cases h.1) (Or.inl ⟨by rfl, ?_⟩) hH8 ?_
      rotate_left
      · (intro w' hS; go_simp; with_reducible rfl)
      simp only [Act.put, List.getElem_toArray, List.getElem_cons_zero, List.getElem_cons_succ, List.setIfInBounds_toArray, List.set_cons_zero, List.set_cons_succ]
      refine wpAnyH_done (by kernel_rfl) ?_ _
      exact ⟨rfl, X1.drew.heap.size, by first | rfl | simp only [Act.put, List.getElem_toArray, List.getElem_cons_zero, List.getElem_cons_succ, List.setIfInBounds_toArray, List.set_cons_zero, List.set_cons_succ], hE.2⟩
  rintro b27 X2 ⟨hb2, R27⟩
  simp only [Act.put, List.getElem_toArray, List.getElem_cons_zero, List.getElem_cons_succ, List.setIfInBounds_toArray, List.set_cons_zero, List.set_cons_succ]
  have hbX2 := hbX1.then hb2
  have T2 := hb2.tab T1
  have cg2 := hb2.cell cg
  have rg2 := hb2.range rg
  have tg2 := hb2.there tg
  have thb2 := hb2.there thb
  have S22 := hb2.range Q22
  have S23 := hb2.range Q23
  have S24 := hb2.range Q24
  have lt2 := Nat.lt_of_lt_of_le lt1 hb2.out.size
  have ltg2 := Nat.lt_of_lt_of_le ltg hb2.out.size
  clear hcon nnew T1 cg rg tg thb Q22 Q23 Q24 hb2 hbX1 lt1 ltg
  go_wp2_with (first | with_reducible refine wpList_load_mid rfl _ _ rfl _ _ rfl _ _ R27 hu39 rfl hiZ ?_ | with_reducible refine wpList_load_mid rfl _ _ rfl _ _ rfl _ _ S22 hu39 rfl hiZ ?_ | with_reducible refine wpList_load_mid rfl _ _ rfl _ _ rfl _ _ S23 hu39 rfl hi1 ?_)
  have h9 := zzentry_of t (C id ++ AP (lo4 a b c d) z p1) (con_len id hid _ z p1) (.pointer (some ⟨g, 0, none⟩)) X2 (fun w1 hb => entry_same t bb g cap own id k z (lo4 a b c d) p1 (lo4 a b c d) p1 [.int .u64 (d1 % 1000000000), .int .i64 (d1 / 1000000000), .pointer none, .int .i64 0] w1 (hb.tab T2) hid (hb.cell cg2) (hb.range rg2) rfl ⟨rfl, rfl⟩)
  rw [← HK1.out] at h9
  refine h9.mono ?_
  rintro e X3 ⟨rfl, hb3⟩
  have hbX3 := hbX2.then hb3
  have T3 := hb3.tab T2
  have cg3 := hb3.cell cg2
  have rg3 := hb3.range rg2
  have tg3 := hb3.there tg2
  have thb3 := hb3.there thb2
  have P22 := hb3.range S22
  have P23 := hb3.range S23
  have P24 := hb3.range S24
  have lt3 := Nat.lt_of_lt_of_le lt2 hb3.out.size
  have ltg3 := Nat.lt_of_lt_of_le ltg2 hb3.out.size
  have tl3 := tail_cells hid rg3
  clear h9 R27 T2 cg2 rg2 tg2 thb2 S22 S23 S24 hb3 hbX2 lt2 ltg2
  go_wp2_with fail
  refine (heard_any g 0 d1 X3 hd1.1 hd1.2 (tl3 0 _ rfl) (tl3 1 _ rfl) (tl3 2 _ rfl)).mono ?_
  rintro e X4 ⟨rfl, hw4⟩
  have hb4 := BW.of hw4
  have tl4 := hb4.range tl3
  have U24 := hb4.range P24
  clear hw4 tl3
  go_wp2_with fail
  refine (fails_any g 0 0 X4 (tl4 3 _ rfl)).mono ?_
  rintro e Y4 ⟨rfl, hY4⟩
  subst hY4
  clear tl4
  go_wp2_with (with_reducible refine wpList_load_mid rfl _ _ rfl _ _ rfl _ _ U24 hu39 rfl hi2 ?_)
  have h9 := zzentry_of t (C id ++ AP (lo4 a' b' c' d') z p2) (con_len id hid _ z p2) (.pointer none) Y4 (fun w1 hb => entry_other t bb g cap own id k z (lo4 a b c d) p1 (lo4 a' b' c' d') p2 [.int .u64 (d1 % 1000000000), .int .i64 (d1 / 1000000000), .pointer none, .int .i64 0] w1 (hb.tab (hb4.tab T3)) hid (hb.cell (hb4.cell cg3)) (hb.range (hb4.range rg3)) rfl HQ.out)
  rw [← HK2.out] at h9
  refine h9.mono ?_
  rintro e X5 ⟨rfl, hb5⟩
  have h45 := hb4.then hb5
  have hbX5 := hbX3.then h45
  have T5 := h45.tab T3
  have cg5 := h45.cell cg3
  have rg5 := h45.range rg3
  have tg5 := h45.there tg3
  have thb5 := h45.there thb3
  have M22 := h45.range P22
  have M23 := h45.range P23
  have M24 := h45.range P24
  have lt5 := Nat.lt_of_lt_of_le lt3 h45.out.size
  have ltg5 := Nat.lt_of_lt_of_le ltg3 h45.out.size
  clear h9 T3 cg3 rg3 tg3 thb3 P22 P23 P24 hb4 hb5 h45 hbX3 lt3 ltg3 U24
  go_wp2_with fail
  have hcon : ∀ w5, BW X5 w5 → Calls Tryd.prog 7 #[.pointer (some ⟨t, 0, none⟩), .agg k1.toArray, .agg #[.int .u64 (d3 % 1000000000), .int .i64 (d3 / 1000000000), .pointer none]] w5 fun e w' => NoneSaid e ∧ Heard w5 bb g cap (C id ++ ER (lo4 a b c d) z p1 (d3 % 1000000000) (d3 / 1000000000) 0) w' := fun w5 bw5 => by
    have h := zz_same t bb g cap own id k z (lo4 a b c d) p1 (d1 % 1000000000) (d1 / 1000000000) 0 (d3 % 1000000000) (d3 / 1000000000) w5 (bw5.tab T5) hid (bw5.cell cg5) (bw5.range rg5) (bw5.there tg5) (bw5.there thb5) ntg htb ngb
    rw [← HK1.out] at h
    exact h
  have nnew : ∀ i, X5.heap.size ≤ i → ¬ (i = bb ∨ i = g) := fun i hi => by omega
  refine wp_cutN (fun qa qb => ((((((((((qa.put (some 106) (.pointer (some ⟨t, 0, none⟩))).put (some 107) (.agg k1.toArray)).put (some 108) (.int .i64 d3)).put (some 109) (.agg #[.int .u64 (d3 % 1000000000), .int .i64 (d3 / 1000000000), .pointer none])).put (some 110) (.tuple #[.agg CZ.toArray, .bool false])).put (some 105) (.tuple #[.agg CZ.toArray, .bool false])).put (some 111) (.agg CZ.toArray)).put (some 112) (.bool false)).put (some 30) (.pointer (some ⟨qb, 0, none⟩))).put (some 31) (.bool false))) (fun qb W => Heard X5 bb g cap (C id ++ ER (lo4 a b c d) z p1 (d3 % 1000000000) (d3 / 1000000000) 0) W ∧ W.rangeAt qb 0 CZ) ?_ ?_
  · refine wp_region_held_drew (S := fun w' => w'.rangeAt b23 0 k1) (by kernel_rfl) (by simpa using M23) (fun hH => ?_)
    refine wpAnyH_take (i := 0) (v := ?_) rfl (by kernel_rfl) (by kernel_rfl) (by kernel_rfl) (fun _ _ _ h => by cases h.1) (Or.inl ⟨by rfl, ?_⟩) hH ?_
    rotate_left
    · (intro w' hS; go_simp; with_reducible rfl)
    simp only [Act.put, List.getElem_toArray, List.getElem_cons_zero, List.getElem_cons_succ, List.setIfInBounds_toArray, List.set_cons_zero, List.set_cons_succ]
    refine wpAnyH_take (i := 1) rfl (by kernel_rfl) (by kernel_rfl) (by kernel_rfl) (fun _ _ _ h => by cases h.1) (yieldsIf_load_mid (by rfl) _ _ rfl _ _ rfl k1 _ (fun w' hS => hS) hu39 rfl (size39 l1)) hH ?_
    simp only [Act.put, List.getElem_toArray, List.getElem_cons_zero, List.getElem_cons_succ, List.setIfInBounds_toArray, List.set_cons_zero, List.set_cons_succ]
    refine wpAnyH_take (i := 2) (v := ?_) rfl (by kernel_rfl) (by kernel_rfl) (by kernel_rfl) (fun _ _ _ h => by cases h.1) (Or.inl ⟨by rfl, ?_⟩) hH ?_
    rotate_left
    · (intro w' hS; go_simp; with_reducible rfl)
    simp only [Act.put, List.getElem_toArray, List.getElem_cons_zero, List.getElem_cons_succ, List.setIfInBounds_toArray, List.set_cons_zero, List.set_cons_succ]
    refine wpAnyH_ready (rs := [3, 8]) (by kernel_rfl) (by simp) ?_
    refine AllReadyH.cons rfl (fun K hK => ?_) (AllReadyH.cons rfl (fun K hK => ?_) AllReadyH.nil)
    · go_simp
      refine (at_any d3 _ hd3.1 hd3.2).mono ?_
      rintro e w5 ⟨rfl, hw5⟩
      refine hK.out _ _ ((BW.of hw5).range hH) (fun hH5 => ?_)
      clear hK K
      have b5 := ((BW.of (Below.refl X5.heap.size X5).drew : BW X5 X5.drew)).then (BW.of hw5)
      refine wpAnyH_ready (rs := [4, 8]) (by kernel_rfl) (by simp) ?_
      refine AllReadyH.cons rfl (fun K hK => ?_) (AllReadyH.cons rfl (fun K hK => ?_) AllReadyH.nil)
      · go_simp
        refine (hcon _ (b5)).mono ?_
        rintro e w6 ⟨he, hP⟩
        obtain rfl : e = _ := he
        refine hK.out _ _ ((bears_heard bb g cap (C id ++ ER (lo4 a b c d) z p1 (d3 % 1000000000) (d3 / 1000000000) 0)).range hP (show ¬ (b23 = bb ∨ b23 = g) by omega) hH5) (fun hH6 => ?_)
        clear hK K
        refine wpAnyH_take (i := 5) (v := ?_) rfl (by kernel_rfl) (by kernel_rfl) (by kernel_rfl) (fun _ _ _ h => by cases h.1) (Or.inl ⟨by rfl, ?_⟩) hH6 ?_
        rotate_left
        · (intro w' hS; go_simp; with_reducible rfl)
        simp only [Act.put, List.getElem_toArray, List.getElem_cons_zero, List.getElem_cons_succ, List.setIfInBounds_toArray, List.set_cons_zero, List.set_cons_succ]
        refine wpAnyH_take (i := 6) (v := ?_) rfl (by kernel_rfl) (by kernel_rfl) (by kernel_rfl) (fun _ _ _ h => by cases h.1) (Or.inl ⟨by rfl, ?_⟩) hH6 ?_
        rotate_left
        · (intro w' hS; go_simp; with_reducible rfl)
        simp only [Act.put, List.getElem_toArray, List.getElem_cons_zero, List.getElem_cons_succ, List.setIfInBounds_toArray, List.set_cons_zero, List.set_cons_succ]
        refine wpAnyH_take (i := 7) (v := ?_) rfl (by kernel_rfl) (by kernel_rfl) (by kernel_rfl) (fun _ _ _ h => by cases h.1) (Or.inl ⟨by rfl, ?_⟩) hH6 ?_
        rotate_left
        · (intro w' hS; go_simp; with_reducible rfl)
        simp only [Act.put, List.getElem_toArray, List.getElem_cons_zero, List.getElem_cons_succ, List.setIfInBounds_toArray, List.set_cons_zero, List.set_cons_succ]
        refine wpAnyH_ready (rs := [8]) (by kernel_rfl) (by simp) ?_
        refine AllReadyH.cons rfl (fun K hK => ?_) AllReadyH.nil
        rw [if_pos (by rfl)]
        refine wp_alloc39 rfl ?_
        refine hK.out _ _ ((BW.new _ _).range hH6) (fun hH7 => ?_)
        clear hK K
        simp only [Act.put, List.getElem_toArray, List.getElem_cons_zero, List.getElem_cons_succ, List.setIfInBounds_toArray, List.set_cons_zero, List.set_cons_succ]
        refine wpAnyH_ready (rs := [9]) (by kernel_rfl) (by simp) ?_
        refine AllReadyH.cons rfl (fun K hK => ?_) AllReadyH.nil
        rw [if_pos (by rfl)]
        refine wp_store_mid _ _ _ rfl _ _ CZ.toArray rfl rfl (there_new w6 CZ 39 CZ.length (Nat.le_refl _)) hs39 h139 ?_
        refine hK.out _ _ ((var39 w6 CZ CZ_len).1.range hH6) (fun hH8 => ?_)
        clear hK K
        simp only [Act.put, List.getElem_toArray, List.getElem_cons_zero, List.getElem_cons_succ, List.setIfInBounds_toArray, List.set_cons_zero, List.set_cons_succ]
        refine wpAnyH_take (i := 10) (v := ?_) rfl (by kernel_rfl) (by kernel_rfl) (by kernel_rfl) (fun _ _ _ h => by cases h.1) (Or.inl ⟨by rfl, ?_⟩) hH8 ?_
        rotate_left
        · (intro w' hS; go_simp; with_reducible rfl)
        simp only [Act.put, List.getElem_toArray, List.getElem_cons_zero, List.getElem_cons_succ, List.setIfInBounds_toArray, List.set_cons_zero, List.set_cons_succ]
        refine wpAnyH_done (by kernel_rfl) ?_ _
        exact ⟨rfl, w6.heap.size, by first | rfl | simp only [Act.put, List.getElem_toArray, List.getElem_cons_zero, List.getElem_cons_succ, List.setIfInBounds_toArray, List.set_cons_zero, List.set_cons_succ], (bears_heard bb g cap (C id ++ ER (lo4 a b c d) z p1 (d3 % 1000000000) (d3 / 1000000000) 0)).late hP b5⟩
      · rw [if_pos (by rfl)]
        refine wp_alloc39 rfl ?_
        refine hK.out _ _ ((BW.new _ _).range hH5) (fun hH5a => ?_)
        clear hK K
        simp only [Act.put, List.getElem_toArray, List.getElem_cons_zero, List.getElem_cons_succ, List.setIfInBounds_toArray, List.set_cons_zero, List.set_cons_succ]
        have b5a := b5.then (BW.new w5 (.cells CZ.toArray 39))
        have t5 := there_new w5 CZ 39 24 (by rw [CZ_len]; decide)
        refine wpAnyH_ready (rs := [4]) (by kernel_rfl) (by simp) ?_
        refine AllReadyH.cons rfl (fun K hK => ?_) AllReadyH.nil
        go_simp
        refine (hcon _ (b5a)).mono ?_
        rintro e w6 ⟨he, hP⟩
        obtain rfl : e = _ := he
        refine hK.out _ _ ((bears_heard bb g cap (C id ++ ER (lo4 a b c d) z p1 (d3 % 1000000000) (d3 / 1000000000) 0)).range hP (show ¬ (b23 = bb ∨ b23 = g) by omega) hH5a) (fun hH6 => ?_)
        clear hK K
        refine wpAnyH_take (i := 5) (v := ?_) rfl (by kernel_rfl) (by kernel_rfl) (by kernel_rfl) (fun _ _ _ h => by cases h.1) (Or.inl ⟨by rfl, ?_⟩) hH6 ?_
        rotate_left
        · (intro w' hS; go_simp; with_reducible rfl)
        simp only [Act.put, List.getElem_toArray, List.getElem_cons_zero, List.getElem_cons_succ, List.setIfInBounds_toArray, List.set_cons_zero, List.set_cons_succ]
        refine wpAnyH_take (i := 6) (v := ?_) rfl (by kernel_rfl) (by kernel_rfl) (by kernel_rfl) (fun _ _ _ h => by cases h.1) (Or.inl ⟨by rfl, ?_⟩) hH6 ?_
        rotate_left
        · (intro w' hS; go_simp; with_reducible rfl)
        simp only [Act.put, List.getElem_toArray, List.getElem_cons_zero, List.getElem_cons_succ, List.setIfInBounds_toArray, List.set_cons_zero, List.set_cons_succ]
        refine wpAnyH_take (i := 7) (v := ?_) rfl (by kernel_rfl) (by kernel_rfl) (by kernel_rfl) (fun _ _ _ h => by cases h.1) (Or.inl ⟨by rfl, ?_⟩) hH6 ?_
        rotate_left
        · (intro w' hS; go_simp; with_reducible rfl)
        simp only [Act.put, List.getElem_toArray, List.getElem_cons_zero, List.getElem_cons_succ, List.setIfInBounds_toArray, List.set_cons_zero, List.set_cons_succ]
        have hE := (bears_heard bb g cap (C id ++ ER (lo4 a b c d) z p1 (d3 % 1000000000) (d3 / 1000000000) 0)).early hP b5a b5.out.size (nnew _ b5.out.size) t5
        refine wpAnyH_ready (rs := [9]) (by kernel_rfl) (by simp) ?_
        refine AllReadyH.cons rfl (fun K hK => ?_) AllReadyH.nil
        rw [if_pos (by rfl)]
        refine wp_store_mid _ _ _ rfl _ _ CZ.toArray rfl rfl hE.1 hs39 h139 ?_
        refine hK.out _ _ ((BX.setCells ((BW.self w6).bx _) 0 CZ).range (by have := b5.out.size; omega) hH6) (fun hH8 => ?_)
        clear hK K
        simp only [Act.put, List.getElem_toArray, List.getElem_cons_zero, List.getElem_cons_succ, List.setIfInBounds_toArray, List.set_cons_zero, List.set_cons_succ]
        refine wpAnyH_take (i := 10) (v := ?_) rfl (by kernel_rfl) (by kernel_rfl) (by kernel_rfl) (fun _ _ _ h => by cases h.1) (Or.inl ⟨by rfl, ?_⟩) hH8 ?_
        rotate_left
        · (intro w' hS; go_simp; with_reducible rfl)
        simp only [Act.put, List.getElem_toArray, List.getElem_cons_zero, List.getElem_cons_succ, List.setIfInBounds_toArray, List.set_cons_zero, List.set_cons_succ]
        refine wpAnyH_done (by kernel_rfl) ?_ _
        exact ⟨rfl, w5.heap.size, by first | rfl | simp only [Act.put, List.getElem_toArray, List.getElem_cons_zero, List.getElem_cons_succ, List.setIfInBounds_toArray, List.set_cons_zero, List.set_cons_succ], hE.2⟩
    · rw [if_pos (by rfl)]
      refine wp_alloc39 rfl ?_
      refine hK.out _ _ ((BW.new _ _).range hH) (fun hHa => ?_)
      clear hK K
      simp only [Act.put, List.getElem_toArray, List.getElem_cons_zero, List.getElem_cons_succ, List.setIfInBounds_toArray, List.set_cons_zero, List.set_cons_succ]
      have b0 : BW X5 (X5.drew.alloc (.cells CZ.toArray 39)) := (BW.of (Below.refl X5.heap.size X5).drew : BW X5 X5.drew).then (BW.new _ _)
      have t0 := there_new X5.drew CZ 39 24 (by rw [CZ_len]; decide)
      refine wpAnyH_ready (rs := [3]) (by kernel_rfl) (by simp) ?_
      refine AllReadyH.cons rfl (fun K hK => ?_) AllReadyH.nil
      go_simp
      refine (at_any d3 _ hd3.1 hd3.2).mono ?_
      rintro e w5 ⟨rfl, hw5⟩
      refine hK.out _ _ ((BW.of hw5).range hHa) (fun hH5 => ?_)
      clear hK K
      have b5 := (b0).then (BW.of hw5)
      have t5 := (BW.of hw5).there t0
      refine wpAnyH_ready (rs := [4]) (by kernel_rfl) (by simp) ?_
      refine AllReadyH.cons rfl (fun K hK => ?_) AllReadyH.nil
      go_simp
      refine (hcon _ (b5)).mono ?_
      rintro e w6 ⟨he, hP⟩
      obtain rfl : e = _ := he
      refine hK.out _ _ ((bears_heard bb g cap (C id ++ ER (lo4 a b c d) z p1 (d3 % 1000000000) (d3 / 1000000000) 0)).range hP (show ¬ (b23 = bb ∨ b23 = g) by omega) hH5) (fun hH6 => ?_)
      clear hK K
      refine wpAnyH_take (i := 5) (v := ?_) rfl (by kernel_rfl) (by kernel_rfl) (by kernel_rfl) (fun _ _ _ h => by cases h.1) (Or.inl ⟨by rfl, ?_⟩) hH6 ?_
      rotate_left
      · (intro w' hS; go_simp; with_reducible rfl)
      simp only [Act.put, List.getElem_toArray, List.getElem_cons_zero, List.getElem_cons_succ, List.setIfInBounds_toArray, List.set_cons_zero, List.set_cons_succ]
      refine wpAnyH_take (i := 6) (v := ?_) rfl (by kernel_rfl) (by kernel_rfl) (by kernel_rfl) (fun _ _ _ h => by cases h.1) (Or.inl ⟨by rfl, ?_⟩) hH6 ?_
      rotate_left
      · (intro w' hS; go_simp; with_reducible rfl)
      simp only [Act.put, List.getElem_toArray, List.getElem_cons_zero, List.getElem_cons_succ, List.setIfInBounds_toArray, List.set_cons_zero, List.set_cons_succ]
      refine wpAnyH_take (i := 7) (v := ?_) rfl (by kernel_rfl) (by kernel_rfl) (by kernel_rfl) (fun _ _ _ h => by cases h.1) (Or.inl ⟨by rfl, ?_⟩) hH6 ?_
      rotate_left
      · (intro w' hS; go_simp; with_reducible rfl)
      simp only [Act.put, List.getElem_toArray, List.getElem_cons_zero, List.getElem_cons_succ, List.setIfInBounds_toArray, List.set_cons_zero, List.set_cons_succ]
      have hE := (bears_heard bb g cap (C id ++ ER (lo4 a b c d) z p1 (d3 % 1000000000) (d3 / 1000000000) 0)).early hP b5 (Nat.le_refl _) (nnew _ (Nat.le_refl _)) t5
      refine wpAnyH_ready (rs := [9]) (by kernel_rfl) (by simp) ?_
      refine AllReadyH.cons rfl (fun K hK => ?_) AllReadyH.nil
      rw [if_pos (by rfl)]
      refine wp_store_mid _ _ _ rfl _ _ CZ.toArray rfl rfl hE.1 hs39 h139 ?_
      refine hK.out _ _ ((BX.setCells ((BW.self w6).bx _) 0 CZ).range (by have : X5.drew.heap.size = X5.heap.size := rfl; omega) hH6) (fun hH8 => ?_)
      clear hK K
      simp only [Act.put, List.getElem_toArray, List.getElem_cons_zero, List.getElem_cons_succ, List.setIfInBounds_toArray, List.set_cons_zero, List.set_cons_succ]
      refine wpAnyH_take (i := 10) (v := ?_) rfl (by kernel_rfl) (by kernel_rfl) (by kernel_rfl) (fun _ _ _ h => by cases h.1) (Or.inl ⟨by rfl, ?_⟩) hH8 ?_
      rotate_left
      · (intro w' hS; go_simp; with_reducible rfl)
      simp only [Act.put, List.getElem_toArray, List.getElem_cons_zero, List.getElem_cons_succ, List.setIfInBounds_toArray, List.set_cons_zero, List.set_cons_succ]
      refine wpAnyH_done (by kernel_rfl) ?_ _
      exact ⟨rfl, X5.drew.heap.size, by first | rfl | simp only [Act.put, List.getElem_toArray, List.getElem_cons_zero, List.getElem_cons_succ, List.setIfInBounds_toArray, List.set_cons_zero, List.set_cons_succ], hE.2⟩
  rintro b30 X6 ⟨hH, R30⟩
  simp only [Act.put, List.getElem_toArray, List.getElem_cons_zero, List.getElem_cons_succ, List.setIfInBounds_toArray, List.set_cons_zero, List.set_cons_succ]
  have hbr := bears_heard bb g cap (C id ++ ER (lo4 a b c d) z p1 (d3 % 1000000000) (d3 / 1000000000) 0)
  have B6 := fun (q : Nat) (cs : List Value) (hq : ¬ (q = bb ∨ q = g)) (hc : X5.rangeAt q 0 cs) => hbr.range (w := X5) (w' := X6) hH hq hc
  have N22 := B6 b22 CZ (by omega) M22
  have N23 := B6 b23 k1 (by omega) M23
  have N24 := B6 b24 k2 (by omega) M24
  obtain ⟨a1, a2, a3, a4, a5, cg6, rg6⟩ := hH
  have hT6 : Tab X6 t bb own k := by
    have hbl : X6.heap[t]? = X5.heap[t]? := a5 t (by omega) htb ntg
    exact ⟨T5.len, fun j v hv => (World.cell?_of_block (w := X5) (a := ⟨t, 0 + j, none⟩) hbl).trans (T5.own j v hv), (World.cell?_of_block (w := X5) (a := ⟨t, 20, none⟩) hbl).trans T5.k, (World.cell?_of_block (w := X5) (a := ⟨t, 21, none⟩) hbl).trans T5.bks⟩
  have hbX6 : BW w X6 := by
    have ho := hbX5.out
    exact ⟨a1.trans ho.os, a2.trans ho.tape, a3.trans ho.output, Nat.le_trans ho.size a4, fun i hi => (a5 i (Nat.lt_of_lt_of_le hi ho.size) (by omega) (by omega)).trans (ho.block i hi)⟩
  clear hcon nnew hbr B6 a1 a2 a3 a4 a5 M22 M23 M24 T5 cg5 rg5 tg5 thb5 hbX5 lt5 ltg5
  go_wp2_with (first | with_reducible refine wpList_load_mid rfl _ _ rfl _ _ rfl _ _ R30 hu39 rfl hiZ ?_ | with_reducible refine wpList_load_mid rfl _ _ rfl _ _ rfl _ _ N22 hu39 rfl hiZ ?_ | with_reducible refine wpList_load_mid rfl _ _ rfl _ _ rfl _ _ N23 hu39 rfl hi1 ?_)
  have h9 := zzentry_of t (C id ++ AP (lo4 a b c d) z p1) (con_len id hid _ z p1) (.pointer (some ⟨g, 0, none⟩)) X6 (fun w1 hb => entry_same t bb g cap own id k z (lo4 a b c d) p1 (lo4 a b c d) p1 [.int .u64 (d3 % 1000000000), .int .i64 (d3 / 1000000000), .pointer none, .int .i64 0] w1 (hb.tab hT6) hid (hb.cell cg6) (hb.range rg6) rfl ⟨rfl, rfl⟩)
  rw [← HK1.out] at h9
  refine h9.mono ?_
  rintro e X7 ⟨rfl, hb7⟩
  have tl7 := tail_cells hid (hb7.range rg6)
  clear h9 R30
  go_wp2_with fail
  refine (heard_any g 0 d3 X7 hd3.1 hd3.2 (tl7 0 _ rfl) (tl7 1 _ rfl) (tl7 2 _ rfl)).mono ?_
  rintro e X8 ⟨rfl, hw8⟩
  have hb8 := BW.of hw8
  have tl8 := hb8.range tl7
  have h68 := hb7.then hb8
  have U24 := h68.range N24
  clear hw8 tl7
  go_wp2_with fail
  refine (fails_any g 0 0 X8 (tl8 3 _ rfl)).mono ?_
  rintro e Y8 ⟨rfl, hY8⟩
  subst hY8
  clear tl8
  go_wp2_with ((with_reducible refine wpList_load_want _ _ rfl _ _ rfl _ _ U24 hu39 rfl hi2 ?_ ?_); (exact rfl))
  have h9 := zzentry_of t (C id ++ AP (lo4 a' b' c' d') z p2) (con_len id hid _ z p2) (.pointer none) Y8 (fun w1 hb => entry_other t bb g cap own id k z (lo4 a b c d) p1 (lo4 a' b' c' d') p2 [.int .u64 (d3 % 1000000000), .int .i64 (d3 / 1000000000), .pointer none, .int .i64 0] w1 (hb.tab (h68.tab hT6)) hid (hb.cell (h68.cell cg6)) (hb.range (h68.range rg6)) rfl HQ.out)
  rw [← HK2.out] at h9
  refine h9.mono ?_
  rintro e X9 ⟨rfl, hb9⟩
  go_wp2_with fail
  go_ret
  exact ⟨rfl, hbX6.then (h68.then hb9)⟩

end Go.Proofs.Qxb6616992aDoor
