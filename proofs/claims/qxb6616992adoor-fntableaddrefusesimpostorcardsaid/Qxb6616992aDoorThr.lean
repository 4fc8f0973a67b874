import Derived.Test.Qxb6616992aDoorZz
namespace Go.Proofs.Qxb6616992aDoor
open Go.RowKit

theorem Placed.wrapX {w w3 w4 w5 : World} {bb q : Nat} {es : List Value} (h : Placed w3 bb es w4) (hb : BW w w3) (hq : w.heap.size ≤ q) (hq3 : q < w3.heap.size) (hqb : q ≠ bb) (hx : BX q w4 w5) : Placed w bb es w5 := by
  obtain ⟨h1, h2, g, cap, hg, hc, hr, ht⟩ := h
  have h3 : BX bb w w4 := (hb.bx bb).then h1
  refine ⟨⟨hx.os.trans h3.os, hx.tape.trans h3.tape, hx.output.trans h3.output, Nat.le_trans h3.size hx.size, fun i hi hib => ?_⟩, hx.there (Ne.symm hqb) h2, g, cap, ?_, hx.cell (Ne.symm hqb) hc, hx.range (by omega) hr, hx.there (by omega) ht⟩
  · exact (hx.block i (Nat.lt_of_lt_of_le hi h3.size) (by omega)).trans (h3.block i hi hib)
  · have := hb.out.size; omega

/-- ZZadd's word when nobody is to be asked -/
def NoneSaid (e : Ending) : Prop := e = .returned (.tuple #[.agg CZ.toArray, .bool false])

/-- the first add, from ZZadd -/
theorem zz_first (t bb : Nat) (own id : List Int) (k : Int) (z : Addr) (l p t1 t2 : Int) (w : World) (hT : Tab w t bb own k) (hid : id.length = 20) (hne : id ≠ own) (hk : 1 ≤ k)
    (h0 : w.cell? ⟨bb, 0, none⟩ = some (.slice none 0 0)) (h1 : w.cell? ⟨bb, 1, none⟩ = some (.slice none 0 0)) (hth : w.there bb 0 6) :
    Calls Tryd.prog 7 #[.pointer (some ⟨t, 0, none⟩), .agg (C id ++ AP l z p).toArray, .agg #[.int .u64 t1, .int .i64 t2, .pointer none]] w fun e w' => NoneSaid e ∧ Placed w bb (C id ++ ER l z p t1 t2 0) w' := by
  have hlt := World.block_lt_of_cell? w _ h0
  refine (zzadd_of t _ (con_len id hid l z p) t1 t2 w (fun w1 w' => Placed w1 bb (C id ++ ER l z p t1 t2 0) w')
    (fun w1 hb => add_first t bb own id k z l p t1 t2 w1 (hb.tab hT) hid hne hk (hb.cell h0) (hb.cell h1) (hb.there hth))
    (fun w1 w' c hb hP hc hc1 => hP.1.block c hc1 (by have : bb < w.heap.size := hlt; omega))).mono ?_
  rintro e w'' ⟨he, w1, w', hb, hP, hx, hs⟩
  have hlt' : bb < w.heap.size := hlt
  exact ⟨he, hP.wrapX hb (by omega) (by omega) (by omega) hx⟩

/-- the refused add, from ZZadd -/
theorem zz_other (t bb eb cap : Nat) (own id : List Int) (k : Int) (z : Addr) (l1 p1 l2 p2 t1 t2 : Int) (r : List Value) (w : World) (hT : Tab w t bb own k) (hid : id.length = 20) (hne : id ≠ own) (h0 : w.cell? ⟨bb, 0, none⟩ = some (.slice (some ⟨eb, 0, none⟩) 1 cap))
    (he : w.rangeAt eb 0 (C id ++ (AP l1 z p1 ++ r))) (hr : r.length = 4) (hq : ¬ (l1 = l2 ∧ p1 = p2)) :
    Calls Tryd.prog 7 #[.pointer (some ⟨t, 0, none⟩), .agg (C id ++ AP l2 z p2).toArray, .agg #[.int .u64 t1, .int .i64 t2, .pointer none]] w fun e w' => NoneSaid e ∧ BW w w' := by
  refine (zzadd_of t _ (con_len id hid l2 z p2) t1 t2 w (fun w1 w' => BW w1 w')
    (fun w1 hb => add_other t bb eb cap own id k z l1 p1 l2 p2 t1 t2 r w1 (hb.tab hT) hid hne (hb.cell h0) (hb.range he) hr hq)
    (fun w1 w' c hb hP hc hc1 => hP.out.block c hc1)).mono ?_
  rintro e w'' ⟨he, w1, w', hb, hP, hx, hs⟩
  exact ⟨he, (hb.then hP).bx_then hx (by omega)⟩

/-- the add that is heard of, from ZZadd -/
theorem zz_same (t bb g cap : Nat) (own id : List Int) (k : Int) (z : Addr) (l p u1 u2 f t1 t2 : Int) (w : World) (hT : Tab w t bb own k) (hid : id.length = 20) (h0 : w.cell? ⟨bb, 0, none⟩ = some (.slice (some ⟨g, 0, none⟩) 1 cap))
    (he : w.rangeAt g 0 (C id ++ ER l z p u1 u2 f)) (htg : w.there g 0 28) (htb : w.there bb 0 6) (n1 : t ≠ g) (n2 : t ≠ bb) (n3 : g ≠ bb) :
    Calls Tryd.prog 7 #[.pointer (some ⟨t, 0, none⟩), .agg (C id ++ AP l z p).toArray, .agg #[.int .u64 t1, .int .i64 t2, .pointer none]] w fun e w' => NoneSaid e ∧ Heard w bb g cap (C id ++ ER l z p t1 t2 0) w' := by
  have hltb : bb < w.heap.size := World.block_lt_of_cell? w _ h0
  have hltg : g < w.heap.size := (there_at htg 0 (by omega)).elim fun _ h => World.block_lt_of_cell? w _ h
  refine (zzadd_of t _ (con_len id hid l z p) t1 t2 w (fun w1 w' => Heard w1 bb g cap (C id ++ ER l z p t1 t2 0) w')
    (fun w1 hb => add_same t bb g cap own id k z l p u1 u2 f t1 t2 w1 (hb.tab hT) hid (hb.cell h0) (hb.range he) (hb.there htg) (hb.there htb) n1 n2 n3)
    (fun w1 w' c hb hP hc hc1 => hP.2.2.2.2.1 c hc1 (by omega) (by omega))).mono ?_
  rintro e w'' ⟨he, w1, w', hb, ⟨a1, a2, a3, a4, a5, a6, a7⟩, hx, hs⟩
  have ho := hb.out
  refine ⟨he, hx.os.trans (a1.trans ho.os), hx.tape.trans (a2.trans ho.tape), hx.output.trans (a3.trans ho.output), Nat.le_trans ho.size (Nat.le_trans a4 hx.size), fun i hi hib hig => ?_, hx.cell (a := ⟨bb, 0, none⟩) (show bb ≠ _ by omega) a6, hx.range (by omega) a7⟩
  have := ho.size
  exact (hx.block i (by omega) (by omega)).trans ((a5 i (by omega) hib hig).trans (ho.block i hi))

/-- a variable of type contact, made and written -/
theorem var39 (w : World) (vs : List Value) (hl : vs.length = 24) :
    BW w ((w.alloc (.cells CZ.toArray 39)).setCells w.heap.size 0 vs) ∧ ((w.alloc (.cells CZ.toArray 39)).setCells w.heap.size 0 vs).rangeAt w.heap.size 0 vs :=
  ⟨(BW.new w _).setCells _ _ _ (Nat.le_refl _), World.rangeAt_setCells_same _ _ _ _ (there_new w CZ 39 vs.length (by rw [hl, CZ_len]; decide))⟩

set_option maxRecDepth 100000 in
theorem neq39 (w : World) : (binOp .neq 39 (.agg CZ.toArray) (.agg CZ.toArray)).run Tryd.prog w = .ok (.bool false) w := by kernel_rfl

end Go.Proofs.Qxb6616992aDoor
