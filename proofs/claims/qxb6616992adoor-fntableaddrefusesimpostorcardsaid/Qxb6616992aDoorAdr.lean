import Derived.Test.Qxb6616992aDoorCon
namespace Go.Proofs.Qxb6616992aDoor
open Go.RowKit

/-- the low half of a v4 address -/
def lo4 (a b c d : Int) : Int := 281470681743360 + a * 16777216 + b * 65536 + c * 256 + d
def Byte (a : Int) : Prop := 0 ≤ a ∧ a ≤ 255

theorem lo4_inj {a b c d a' b' c' d' : Int} (hb : Byte b) (hc : Byte c) (hd : Byte d) (hb' : Byte b') (hc' : Byte c') (hd' : Byte d') (h : lo4 a b c d = lo4 a' b' c' d') : a = a' ∧ b = b' ∧ c = c' ∧ d = d' := by
  unfold Byte at *
  unfold lo4 at h
  omega

set_option maxRecDepth 100000 in
set_option maxHeartbeats 1000000 in
theorem from4_any (a b c d : Int) (z : Addr) (w : World) (ha : 0 ≤ a ∧ a ≤ 255) (hb : 0 ≤ b ∧ b ≤ 255) (hc : 0 ≤ c ∧ c ≤ 255) (hd : 0 ≤ d ∧ d ≤ 255) (hz : w.cell? ⟨0, 0, none⟩ = some (.pointer (some z))) :
    Calls Tryd.prog 13 #[.agg #[.int .u8 a, .int .u8 b, .int .u8 c, .int .u8 d]] w fun e w' => e = .returned (.agg #[.int .u64 0, .int .u64 (lo4 a b c d), .pointer (some z)]) ∧ BW w w' := by
  have hlt := World.block_lt_of_cell? w _ hz
  have e1 : bits .or .u64 281470681743360 (a * 16777216) = 281470681743360 + a * 16777216 := or_part 32 _ _ (by omega) (by decide) (by omega) (by omega) (by omega) (by omega)
  have e2 : bits .or .u64 (281470681743360 + a * 16777216) (b * 65536) = 281470681743360 + a * 16777216 + b * 65536 := or_part 24 _ _ (by omega) (by omega) (by omega) (by omega) (by omega) (by omega)
  have e3 : bits .or .u64 (281470681743360 + a * 16777216 + b * 65536) (c * 256) = 281470681743360 + a * 16777216 + b * 65536 + c * 256 := or_part 16 _ _ (by omega) (by omega) (by omega) (by omega) (by omega) (by omega)
  have e4 : bits .or .u64 (281470681743360 + a * 16777216 + b * 65536 + c * 256) d = lo4 a b c d := or_part 8 _ _ (by omega) (by omega) (by omega) (by omega) (by omega) (by omega)
  go_enter Tryd.func13, Tryd.ntmps13
  go_wp2_with fail
  exact bodyPost_ret (v := .agg #[.int .u64 0, .int .u64 (lo4 a b c d), .pointer (some z)]) (by simp [results, Tryd.results13, go_sem]) rfl
    ⟨rfl, (BW.new _ _).then (BW.new _ _)⟩

set_option maxRecDepth 100000 in
set_option maxHeartbeats 1000000 in
theorem port_any (l p : Int) (z : Addr) (w : World) :
    Calls Tryd.prog 12 #[.agg #[.int .u64 0, .int .u64 l, .pointer (some z)], .int .u16 p] w fun e w' => e = .returned (.agg (AP l z p).toArray) ∧ BW w w' := by
  go_enter Tryd.func12, Tryd.ntmps12
  go_wp2_with fail
  exact bodyPost_ret (v := .agg #[.int .u64 0, .int .u64 l, .pointer (some z), .int .u16 p]) (by simp [results, Tryd.results12, go_sem]) rfl
    ⟨rfl, (BW.new _ _).then (BW.new _ _)⟩

theorem BX.setCells {b : Nat} {w w' : World} (h : BX b w w') (o : Nat) (vs : List Value) : BX b w (w'.setCells b o vs) := by
  induction vs generalizing w' o with
  | nil => exact h
  | cons v r ih => exact ih (h.then (BX.set w' b o v)) (o + 1)

theorem BW.bx_then {w w1 w' : World} {b : Nat} (h : BW w w1) (k : BX b w1 w') (hb : w.heap.size ≤ b) : BW w w' :=
  ⟨k.os.trans h.out.os, k.tape.trans h.out.tape, k.output.trans h.out.output, Nat.le_trans h.out.size k.size, fun i hi => (k.block i (Nat.lt_of_lt_of_le hi h.out.size) (by omega)).trans (h.out.block i hi)⟩

theorem size22 {xs : List Int} (h : xs.length = 20) : (Tryd.prog.info? 22).map (·.size) = some (C xs).length := by rw [C_len, h]; kernel_rfl
theorem size23 (a b c d : Int) : (Tryd.prog.info? 23).map (·.size) = some ([.int .u8 a, .int .u8 b, .int .u8 c, .int .u8 d] : List Value).length := by show _ = some 4; kernel_rfl
theorem con_len (id : List Int) (hid : id.length = 20) (l : Int) (z : Addr) (p : Int) : (C id ++ AP l z p).length = 24 := by rw [List.length_append, C_len, hid]; rfl
theorem con_one (id : List Int) (l : Int) (z : Addr) (p : Int) : ∀ v ∈ C id ++ AP l z p, v.oneCell' = true := by
  intro v hv
  rcases List.mem_append.1 hv with hv | hv
  · exact C_one id v hv
  · have hE : ∀ v ∈ AP l z p, v.oneCell' = true := by unfold AP; simp [Value.oneCell']
    exact hE v hv

theorem yields_build39 {ops : Array Oper} {S : World → Prop} {op : Oper} {a : Act} (hw : Region.wanted op (yielded ops a.tmps) = true) (x y : Operand) (ho : op.op = .build 39 #[(0, x), (1, y)]) (id : List Int) (hid : id.length = 20) (l : Int) (z : Addr) (p : Int)
    (hx : a.eval x = .agg (C id).toArray) (hy : a.eval y = .agg (AP l z p).toArray) : YieldsIf Tryd.prog ops S op (.agg (C id ++ AP l z p).toArray) a :=
  .inl ⟨hw, fun w _ => by
    unfold execOp
    simp only [ho, Sem.run_bind, List.map_toArray, List.map_cons, List.map_nil, hx, hy, build39 id hid, Result.andThen_ok, Sem.run_pure]⟩

set_option linter.unusedSimpArgs false in
set_option maxRecDepth 100000 in
set_option maxHeartbeats 2000000 in
theorem contact_any (id : List Int) (a b c d p : Int) (z : Addr) (w : World) (hid : id.length = 20) (ha : Byte a) (hb : Byte b) (hc : Byte c) (hd : Byte d) (hz : w.cell? ⟨0, 0, none⟩ = some (.pointer (some z))) :
    Calls Tryd.prog 6 #[.agg (C id).toArray, .agg #[.int .u8 a, .int .u8 b, .int .u8 c, .int .u8 d], .int .u16 p] w fun e w' => e = .returned (.agg (C id ++ AP (lo4 a b c d) z p).toArray) ∧ BW w w' := by
  have hlt := World.block_lt_of_cell? w _ hz
  have hb1 := BW.new w (.cells (C id).toArray 22)
  have hb2 := BW.new (w.alloc (.cells (C id).toArray 22)) (.cells #[.int .u8 a, .int .u8 b, .int .u8 c, .int .u8 d] 23)
  have hb3 := BW.new ((w.alloc (.cells (C id).toArray 22)).alloc (.cells #[.int .u8 a, .int .u8 b, .int .u8 c, .int .u8 d] 23)) (.cells CZ.toArray 39)
  have r1 := hb3.range (hb2.range (range_new w (C id) 22))
  have r2 := hb3.range (range_new (w.alloc (.cells (C id).toArray 22)) [.int .u8 a, .int .u8 b, .int .u8 c, .int .u8 d] 23)
  have r3 := there_new ((w.alloc (.cells (C id).toArray 22)).alloc (.cells #[.int .u8 a, .int .u8 b, .int .u8 c, .int .u8 d] 23)) CZ 39 24 (by rw [CZ_len]; decide)
  have e1 : (w.alloc (.cells (C id).toArray 22)).heap.size = w.heap.size + 1 := by simp
  have e2 : ((w.alloc (.cells (C id).toArray 22)).alloc (.cells #[.int .u8 a, .int .u8 b, .int .u8 c, .int .u8 d] 23)).heap.size = w.heap.size + 2 := by simp
  rw [e1] at r2
  rw [e2] at r3
  have z1 := (hb1.then (hb2.then hb3)).cell hz
  have hbw := hb1.then (hb2.then hb3)
  clear hb1 hb2 hb3 e1 e2
  have hu := Tryd.underlying39
  have hl := con_len id hid (lo4 a b c d) z p
  have hs := size39 hl
  have h1 := con_one id (lo4 a b c d) z p
  go_enter Tryd.func6, Tryd.ntmps6
  go_wp2_with (with_reducible refine wpList_alloc39 rfl rfl ?_)
  generalize ((w.alloc (.cells (C id).toArray 22)).alloc (.cells #[.int .u8 a, .int .u8 b, .int .u8 c, .int .u8 d] 23)).alloc (.cells CZ.toArray 39) = w1 at r1 r2 r3 z1 hbw ⊢
  refine wp_region_held_drew (S := fun w' => BX (w.heap.size + 2) w1 w' ∧ w'.there (w.heap.size + 2) 0 24) (by kernel_rfl) ⟨(BW.of (Below.refl _ _).drew).bx _, by simpa using r3⟩ (fun hHeld => ?_)
  refine wpAnyH_take (i := 0) rfl (by kernel_rfl) (by kernel_rfl) (by kernel_rfl) (fun _ _ _ h => h) (yieldsIf_load_mid (by rfl) _ _ rfl _ _ rfl (C id) _ (fun w' hS => hS.1.range (by omega) r1) Tryd.underlying22 rfl (size22 hid)) hHeld ?_
  simp only [Act.put, List.getElem_toArray, List.getElem_cons_zero, List.getElem_cons_succ, List.setIfInBounds_toArray, List.set_cons_zero, List.set_cons_succ]
  refine wpAnyH_take (i := 1) rfl (by kernel_rfl) (by kernel_rfl) (by kernel_rfl) (fun _ _ _ h => h) (yieldsIf_load_mid (by rfl) _ _ rfl _ _ rfl [.int .u8 a, .int .u8 b, .int .u8 c, .int .u8 d] _ (fun w' hS => hS.1.range (by omega) r2) Tryd.underlying23 rfl (size23 a b c d)) hHeld ?_
  simp only [Act.put, List.getElem_toArray, List.getElem_cons_zero, List.getElem_cons_succ, List.setIfInBounds_toArray, List.set_cons_zero, List.set_cons_succ]
  refine wpAnyH_take (i := 3) (v := ?_) rfl (by kernel_rfl) (by kernel_rfl) (by kernel_rfl) (fun _ _ _ h => h) (Or.inl ⟨by rfl, ?_⟩) hHeld ?_
  rotate_left
  · (intro w' hS; go_simp; with_reducible rfl)
  simp only [Act.put, List.getElem_toArray, List.getElem_cons_zero, List.getElem_cons_succ, List.setIfInBounds_toArray, List.set_cons_zero, List.set_cons_succ]
  refine wpAnyH_ready (rs := [2]) (by kernel_rfl) (by simp) ?_
  refine AllReadyH.cons rfl (fun K hK => ?_) AllReadyH.nil
  go_simp
  refine (from4_any a b c d z _ ha hb hc hd (hHeld.1.cell (a := ⟨0, 0, none⟩) (show 0 ≠ w.heap.size + 2 by omega) z1)).mono ?_
  rintro e w2 ⟨rfl, hw2⟩
  refine hK.out _ _ ⟨hHeld.1.then (hw2.bx _), hw2.there hHeld.2⟩ (fun hHeld2 => ?_)
  clear hK K hHeld
  refine wpAnyH_ready (rs := [4]) (by kernel_rfl) (by simp) ?_
  refine AllReadyH.cons rfl (fun K hK => ?_) AllReadyH.nil
  go_simp
  refine (port_any (lo4 a b c d) p z _).mono ?_
  rintro e w3 ⟨rfl, hw3⟩
  refine hK.out _ _ ⟨hHeld2.1.then (hw3.bx _), hw3.there hHeld2.2⟩ (fun hHeld3 => ?_)
  clear hK K hHeld2
  refine wpAnyH_take (i := 5) rfl (by kernel_rfl) (by kernel_rfl) (by kernel_rfl) (fun _ _ _ h => h) (yields_build39 (by rfl) _ _ rfl id hid (lo4 a b c d) z p rfl rfl) hHeld3 ?_
  simp only [Act.put, List.getElem_toArray, List.getElem_cons_zero, List.getElem_cons_succ, List.setIfInBounds_toArray, List.set_cons_zero, List.set_cons_succ]
  have HT3 : w3.there (w.heap.size + 2) 0 (C id ++ AP (lo4 a b c d) z p).length := by rw [hl]; exact hHeld3.2
  refine wpAnyH_ready (rs := [6]) (by kernel_rfl) (by simp) ?_
  refine AllReadyH.cons rfl (fun K hK => ?_) AllReadyH.nil
  rw [if_pos (by rfl)]
  refine wp_store_mid _ _ _ rfl _ _ _ rfl rfl HT3 hs (all_oneCell_toArray h1) ?_
  refine hK.out _ _ ⟨hHeld3.1.setCells _ _, World.there_setCells hHeld3.2 _ _ _⟩ (fun hHeld4 => ?_)
  clear hK K
  refine wpAnyH_done (by kernel_rfl) ?_ _
  go_wp2
  refine bodyPost_ret (results_cell (p := 6) rfl _ _ (w.heap.size + 2) 0 _ _ rfl (World.rangeAt_setCells_same _ _ _ _ HT3) hu rfl hs) rfl ?_
  exact ⟨rfl, hbw.bx_then hHeld4.1 (by omega)⟩

end Go.Proofs.Qxb6616992aDoor
