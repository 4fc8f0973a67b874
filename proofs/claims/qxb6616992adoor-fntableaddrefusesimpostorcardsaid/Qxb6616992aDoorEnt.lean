import Derived.Test.Qxb6616992aDoorIdx
import Derived.LaidEql
namespace Go.Proofs.Qxb6616992aDoor
open Go.RowKit

/-- the cells of an address with its port -/
def AP (lo : Int) (z : Addr) (port : Int) : List Value := [.int .u64 0, .int .u64 lo, .pointer (some z), .int .u16 port]

theorem eqPtr (d : Nat) (z : Addr) (w : World) : (Op.equalIn (d + 1) 31 (.pointer (some z)) (.pointer (some z))).run Tryd.prog w = .ok true w := by
  simp [Op.equalIn, run_underlying Tryd.underlying31, run_sameAddr_same]

set_option maxRecDepth 100000 in
theorem neq37 (l1 l2 p1 p2 : Int) (z : Addr) (w : World) :
    (binOp .neq 37 (.agg #[.int .u64 0, .int .u64 l1, .pointer (some z), .int .u16 p1]) (.agg #[.int .u64 0, .int .u64 l2, .pointer (some z), .int .u16 p2])).run Tryd.prog w = .ok (.bool (!(l1 == l2 && p1 == p2))) w := by
  have hz := fun d => eqPtr d z w
  go_simp
  by_cases h1 : l1 = l2 <;> by_cases h2 : p1 = p2 <;> simp [h1, h2]

theorem neqAP (l1 l2 p1 p2 : Int) (z : Addr) (w : World) :
    (binOp .neq 37 (.agg (AP l1 z p1).toArray) (.agg (AP l2 z p2).toArray)).run Tryd.prog w = .ok (.bool (!(l1 == l2 && p1 == p2))) w := neq37 l1 l2 p1 p2 z w

theorem size37 (l : Int) (z : Addr) (p : Int) : (Tryd.prog.info? 37).map (·.size) = some (AP l z p).length := by
  show _ = some 4
  kernel_rfl

/-- behind w nothing that lay in w has turned -/
def BW (w w' : World) : Prop := Below w.heap.size w w'
theorem BW.out {w w' : World} (h : BW w w') : Below w.heap.size w w' := h
theorem BW.of {w w' : World} (h : Below w.heap.size w w') : BW w w' := h
theorem BW.then {w w' w'' : World} (h : BW w w') (k : BW w' w'') : BW w w'' := Below.trans h.out (Below.mono k.out h.out.size)
theorem BW.self (w : World) : BW w w := Below.refl _ _
theorem BW.new (w : World) (o : Obj) : BW w (w.alloc o) := (Below.refl _ _).alloc (Nat.le_refl _) _
theorem BW.range {w w' : World} {b o : Nat} {cs : List Value} (hb : BW w w') (h : w.rangeAt b o cs) : w'.rangeAt b o cs := range_below h hb
theorem BW.cell {w w' : World} {a : Addr} {v : Value} (hb : BW w w') (h : w.cell? a = some v) : w'.cell? a = some v := cell_below h hb
theorem BW.tab {w w' : World} {t bb : Nat} {own : List Int} {k : Int} (hb : BW w w') (h : Tab w t bb own k) : Tab w' t bb own k := h.next hb

/-- the region's beginning, at the class of the worlds behind one that lies behind w -/
theorem wp_region_BW {P : Program} {a : Act} {id : Nat} {R : Exit → Act → World → Prop} {w0 w : World} {l : List Oper} (h0 : BW w0 w) (hm : P.follows .mixedOrders = true) (hB : Region.lexB .any l.toArray = true)
    (h : wpQuiet P l.toArray (fun w' => BW w0 w') (fun a' => ∀ w', BW w0 w' → R .normal a' w') l a) : (Code.region id l.toArray true).wp P R a w :=
  wp_region_quiet (C := fun w' => BW w0 w') hm hB (BW.then h0 (BW.of (Below.refl _ _).drew)) (by simpa using h)

set_option maxRecDepth 100000 in
set_option maxHeartbeats 1000000 in
theorem entry_none (t bb : Nat) (own id : List Int) (k : Int) (ad : List Value) (w : World) (hT : Tab w t bb own k) (hid : id.length = 20) (h0 : w.cell? ⟨bb, 0, none⟩ = some (.slice none 0 0)) :
    Calls Tryd.prog 16 #[.pointer (some ⟨t, 0, none⟩), .agg (C id ++ ad).toArray] w fun e w' => e = .returned (.pointer none) ∧ BW w w' := by
  have hu := Tryd.underlying27
  have hi := size27 hid
  have hb1 := BW.new w (.cells (C id ++ ad).toArray 39)
  have r1 := range_left (range_new w (C id ++ ad) 39)
  generalize C id ++ ad = cs at r1 hb1 ⊢
  have hR : ∀ w', BW (w.alloc (.cells cs.toArray 39)) w' → w'.rangeAt w.heap.size 0 (C id) := fun w' h => h.range r1
  have h18 : ∀ w', BW (w.alloc (.cells cs.toArray 39)) w' → Calls Tryd.prog 18 #[.pointer (some ⟨t, 0, none⟩), .agg (C id).toArray] w' fun e w'' => e = .returned (.int .i64 0) ∧ BW (w.alloc (.cells cs.toArray 39)) w'' :=
    fun w' h => (bucket_any t bb own id k w' (h.tab (hb1.tab hT)) hid).mono (fun e w'' ⟨he, hb⟩ => ⟨he, h.then (BW.of hb)⟩)
  have h19 : ∀ w', BW (w.alloc (.cells cs.toArray 39)) w' → Calls Tryd.prog 19 #[.pointer (some ⟨t, 0, none⟩), .int .i64 0, .agg (C id).toArray] w' fun e w'' => e = .returned (.int .i64 (-1)) ∧ BW (w.alloc (.cells cs.toArray 39)) w'' :=
    fun w' h => (index_none t bb own id k w' (h.tab (hb1.tab hT)) (h.cell (hb1.cell h0))).mono (fun e w'' ⟨he, hb⟩ => ⟨he, h.then (BW.of hb)⟩)
  have hw0 := BW.self (w.alloc (.cells cs.toArray 39))
  clear r1 hT h0
  go_enter Tryd.func16, Tryd.ntmps16
  go_wp2_with (first | (with_reducible refine wpList_load_mid rfl _ _ rfl _ _ rfl _ _ (hR _ (by assumption)) hu rfl hi ?_) | (go_at_call 18; refine (h18 _ (by assumption)).mono ?_; rintro e w1 ⟨rfl, hw1⟩; clear hw0) | (go_at_call 19; refine (h19 _ (by assumption)).mono ?_; rintro e w2 ⟨rfl, hw2⟩; clear hw1))
  go_quiet (fail)
  go_wp2
  go_ret
  exact ⟨rfl, hb1.then (hw2.then (BW.of (below_drewN (Below.refl _ _) _)))⟩

set_option maxRecDepth 100000 in
set_option maxHeartbeats 1000000 in
theorem entry_same (t bb eb cap : Nat) (own id : List Int) (k : Int) (z : Addr) (l1 p1 l2 p2 : Int) (r : List Value) (w : World) (hT : Tab w t bb own k) (hid : id.length = 20) (h0 : w.cell? ⟨bb, 0, none⟩ = some (.slice (some ⟨eb, 0, none⟩) 1 cap))
    (he : w.rangeAt eb 0 (C id ++ (AP l1 z p1 ++ r))) (hr : r.length = 4) (hq : l1 = l2 ∧ p1 = p2) :
    Calls Tryd.prog 16 #[.pointer (some ⟨t, 0, none⟩), .agg (C id ++ AP l2 z p2).toArray] w fun e w' => e = .returned (.pointer (some ⟨eb, 0, none⟩)) ∧ BW w w' := by
  have hl : (C id ++ (AP l1 z p1 ++ r)).length = 28 := by rw [List.length_append, List.length_append, C_len, hid, hr]; rfl
  have hu := Tryd.underlying27
  have hi := size27 hid
  have hu37 := Tryd.underlying37
  have hb1 := BW.new w (.cells (C id ++ AP l2 z p2).toArray 39)
  have r1 := range_left (range_new w (C id ++ AP l2 z p2) 39)
  have r2 := range_right (range_new w (C id ++ AP l2 z p2) 39)
  have r3 := range_left (range_right he)
  rw [C_len, hid, Nat.zero_add] at r2 r3
  generalize C id ++ AP l2 z p2 = cs at r1 r2 hb1 ⊢
  have hR : ∀ w', BW (w.alloc (.cells cs.toArray 39)) w' → w'.rangeAt w.heap.size 0 (C id) := fun w' h => h.range r1
  have hRb : ∀ w', BW (w.alloc (.cells cs.toArray 39)) w' → w'.rangeAt w.heap.size 20 (AP l2 z p2) := fun w' h => h.range r2
  have hRa : ∀ w', BW (w.alloc (.cells cs.toArray 39)) w' → w'.rangeAt eb 20 (AP l1 z p1) := fun w' h => h.range (hb1.range r3)
  have hc1 : ∀ w', BW (w.alloc (.cells cs.toArray 39)) w' → w'.cell? ⟨t, 21, none⟩ = some (.slice (some ⟨bb, 0, none⟩) 1 1) := fun w' h => h.cell (hb1.cell hT.bks)
  have hc2 : ∀ w', BW (w.alloc (.cells cs.toArray 39)) w' → w'.cell? ⟨bb, 0, none⟩ = some (.slice (some ⟨eb, 0, none⟩) 1 cap) := fun w' h => h.cell (hb1.cell h0)
  have h18 : ∀ w', BW (w.alloc (.cells cs.toArray 39)) w' → Calls Tryd.prog 18 #[.pointer (some ⟨t, 0, none⟩), .agg (C id).toArray] w' fun e w'' => e = .returned (.int .i64 0) ∧ BW (w.alloc (.cells cs.toArray 39)) w'' :=
    fun w' h => (bucket_any t bb own id k w' (h.tab (hb1.tab hT)) hid).mono (fun e w'' ⟨he, hb⟩ => ⟨he, h.then (BW.of hb)⟩)
  have h19 : ∀ w', BW (w.alloc (.cells cs.toArray 39)) w' → Calls Tryd.prog 19 #[.pointer (some ⟨t, 0, none⟩), .int .i64 0, .agg (C id).toArray] w' fun e w'' => e = .returned (.int .i64 0) ∧ BW (w.alloc (.cells cs.toArray 39)) w'' :=
    fun w' h => (index_one t bb eb cap own id k _ w' (h.tab (hb1.tab hT)) hid (h.cell (hb1.cell h0)) (h.range (hb1.range he)) hl).mono (fun e w'' ⟨he, hb⟩ => ⟨he, h.then (BW.of hb)⟩)
  have hw0 := BW.self (w.alloc (.cells cs.toArray 39))
  have hne : ∀ w, (binOp .neq 37 (.agg (AP l1 z p1).toArray) (.agg (AP l2 z p2).toArray)).run Tryd.prog w = .ok (.bool false) w := fun w => by
    rw [neqAP]
    rw [hq.1, hq.2, beq_self_eq_true, beq_self_eq_true]; rfl
  clear r1 r2 r3 hT h0 he hq hl
  go_enter Tryd.func16, Tryd.ntmps16
  go_wp2_with (first | (with_reducible refine wpList_load_mid rfl _ _ rfl _ _ rfl _ _ (hR _ (by assumption)) hu rfl hi ?_) | (go_at_call 18; refine (h18 _ (by assumption)).mono ?_; rintro e w1 ⟨rfl, hw1⟩; clear hw0) | (go_at_call 19; refine (h19 _ (by assumption)).mono ?_; rintro e w2 ⟨rfl, hw2⟩; clear hw1))
  refine wp_region_BW hw2 (by kernel_rfl) (by kernel_rfl) ?_
  repeat (first
    | (refine BigFrame.wpQuiet_skip rfl ?_
       simp only [Act.put, List.setIfInBounds_toArray, List.set_cons_zero, List.set_cons_succ])
    | (refine wpQuiet_load rfl _ _ rfl _ _ rfl _ _ (fun w' hw' => by first | exact hRa w' hw' | exact hRb w' hw') hu37 rfl (size37 _ _ _) ?_
       simp only [Act.put, List.setIfInBounds_toArray, List.set_cons_zero, List.set_cons_succ])
    | (refine wpQuiet_run (v := ?_) rfl (fun w' hw' => ?_) ?_
       rotate_left
       · (go_simp; with_reducible rfl)
       simp only [Act.put, List.setIfInBounds_toArray, List.set_cons_zero, List.set_cons_succ]))
  refine wpQuiet_nil ?_
  intro w3 hw3
  go_wp2
  go_ret
  exact ⟨rfl, hb1.then hw3⟩

set_option maxRecDepth 100000 in
set_option maxHeartbeats 1000000 in
theorem entry_other (t bb eb cap : Nat) (own id : List Int) (k : Int) (z : Addr) (l1 p1 l2 p2 : Int) (r : List Value) (w : World) (hT : Tab w t bb own k) (hid : id.length = 20) (h0 : w.cell? ⟨bb, 0, none⟩ = some (.slice (some ⟨eb, 0, none⟩) 1 cap))
    (he : w.rangeAt eb 0 (C id ++ (AP l1 z p1 ++ r))) (hr : r.length = 4) (hq : ¬ (l1 = l2 ∧ p1 = p2)) :
    Calls Tryd.prog 16 #[.pointer (some ⟨t, 0, none⟩), .agg (C id ++ AP l2 z p2).toArray] w fun e w' => e = .returned (.pointer none) ∧ BW w w' := by
  have hl : (C id ++ (AP l1 z p1 ++ r)).length = 28 := by rw [List.length_append, List.length_append, C_len, hid, hr]; rfl
  have hu := Tryd.underlying27
  have hi := size27 hid
  have hu37 := Tryd.underlying37
  have hb1 := BW.new w (.cells (C id ++ AP l2 z p2).toArray 39)
  have r1 := range_left (range_new w (C id ++ AP l2 z p2) 39)
  have r2 := range_right (range_new w (C id ++ AP l2 z p2) 39)
  have r3 := range_left (range_right he)
  rw [C_len, hid, Nat.zero_add] at r2 r3
  generalize C id ++ AP l2 z p2 = cs at r1 r2 hb1 ⊢
  have hR : ∀ w', BW (w.alloc (.cells cs.toArray 39)) w' → w'.rangeAt w.heap.size 0 (C id) := fun w' h => h.range r1
  have hRb : ∀ w', BW (w.alloc (.cells cs.toArray 39)) w' → w'.rangeAt w.heap.size 20 (AP l2 z p2) := fun w' h => h.range r2
  have hRa : ∀ w', BW (w.alloc (.cells cs.toArray 39)) w' → w'.rangeAt eb 20 (AP l1 z p1) := fun w' h => h.range (hb1.range r3)
  have hc1 : ∀ w', BW (w.alloc (.cells cs.toArray 39)) w' → w'.cell? ⟨t, 21, none⟩ = some (.slice (some ⟨bb, 0, none⟩) 1 1) := fun w' h => h.cell (hb1.cell hT.bks)
  have hc2 : ∀ w', BW (w.alloc (.cells cs.toArray 39)) w' → w'.cell? ⟨bb, 0, none⟩ = some (.slice (some ⟨eb, 0, none⟩) 1 cap) := fun w' h => h.cell (hb1.cell h0)
  have h18 : ∀ w', BW (w.alloc (.cells cs.toArray 39)) w' → Calls Tryd.prog 18 #[.pointer (some ⟨t, 0, none⟩), .agg (C id).toArray] w' fun e w'' => e = .returned (.int .i64 0) ∧ BW (w.alloc (.cells cs.toArray 39)) w'' :=
    fun w' h => (bucket_any t bb own id k w' (h.tab (hb1.tab hT)) hid).mono (fun e w'' ⟨he, hb⟩ => ⟨he, h.then (BW.of hb)⟩)
  have h19 : ∀ w', BW (w.alloc (.cells cs.toArray 39)) w' → Calls Tryd.prog 19 #[.pointer (some ⟨t, 0, none⟩), .int .i64 0, .agg (C id).toArray] w' fun e w'' => e = .returned (.int .i64 0) ∧ BW (w.alloc (.cells cs.toArray 39)) w'' :=
    fun w' h => (index_one t bb eb cap own id k _ w' (h.tab (hb1.tab hT)) hid (h.cell (hb1.cell h0)) (h.range (hb1.range he)) hl).mono (fun e w'' ⟨he, hb⟩ => ⟨he, h.then (BW.of hb)⟩)
  have hw0 := BW.self (w.alloc (.cells cs.toArray 39))
  have hne : ∀ w, (binOp .neq 37 (.agg (AP l1 z p1).toArray) (.agg (AP l2 z p2).toArray)).run Tryd.prog w = .ok (.bool true) w := fun w => by
    rw [neqAP]
    have h : (l1 == l2 && p1 == p2) = false := by rw [Bool.eq_false_iff]; intro h; exact hq (by simpa using h)
    rw [h]; rfl
  clear r1 r2 r3 hT h0 he hq hl
  go_enter Tryd.func16, Tryd.ntmps16
  go_wp2_with (first | (with_reducible refine wpList_load_mid rfl _ _ rfl _ _ rfl _ _ (hR _ (by assumption)) hu rfl hi ?_) | (go_at_call 18; refine (h18 _ (by assumption)).mono ?_; rintro e w1 ⟨rfl, hw1⟩; clear hw0) | (go_at_call 19; refine (h19 _ (by assumption)).mono ?_; rintro e w2 ⟨rfl, hw2⟩; clear hw1))
  refine wp_region_BW hw2 (by kernel_rfl) (by kernel_rfl) ?_
  repeat (first
    | (refine BigFrame.wpQuiet_skip rfl ?_
       simp only [Act.put, List.setIfInBounds_toArray, List.set_cons_zero, List.set_cons_succ])
    | (refine wpQuiet_load rfl _ _ rfl _ _ rfl _ _ (fun w' hw' => by first | exact hRa w' hw' | exact hRb w' hw') hu37 rfl (size37 _ _ _) ?_
       simp only [Act.put, List.setIfInBounds_toArray, List.set_cons_zero, List.set_cons_succ])
    | (refine wpQuiet_run (v := ?_) rfl (fun w' hw' => ?_) ?_
       rotate_left
       · (go_simp; with_reducible rfl)
       simp only [Act.put, List.setIfInBounds_toArray, List.set_cons_zero, List.set_cons_succ]))
  refine wpQuiet_nil ?_
  intro w3 hw3
  go_wp2
  go_ret
  exact ⟨rfl, hb1.then hw3⟩

end Go.Proofs.Qxb6616992aDoor
