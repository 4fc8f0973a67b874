import Derived.Test.Qxb6616992aDoorAd3
namespace Go.Proofs.Qxb6616992aDoor
open Go.RowKit

/-- what ZZadd leaves, if add leaves R -/
def AddPost (R : World → World → Prop) (w : World) (e : Ending) (w'' : World) : Prop :=
  e = .returned (.tuple #[.agg CZ.toArray, .bool false]) ∧ ∃ w1 w', BW w w1 ∧ R w1 w' ∧ BX (w.heap.size + 2) w' w'' ∧ w.heap.size + 3 ≤ w1.heap.size

theorem there_block {w w' : World} {c o n : Nat} (h : w.there c o n) (hb : w'.heap[c]? = w.heap[c]?) : w'.there c o n := fun j hj => by
  have h1 := h j hj
  rw [World.cell?_of_block (w := w) (w' := w') (a := ⟨c, o + j, none⟩) hb, World.frozen?_of_block (w := w) (w' := w') (a := ⟨c, o + j, none⟩) hb]
  exact h1

set_option maxRecDepth 100000 in
set_option maxHeartbeats 2000000 in
theorem zzadd_of (t : Nat) (cs : List Value) (hl : cs.length = 24) (t1 t2 : Int) (w : World) (R : World → World → Prop)
    (hc : ∀ w1, BW w w1 → Calls Tryd.prog 14 #[.pointer (some ⟨t, 0, none⟩), .agg cs.toArray, .agg #[.int .u64 t1, .int .i64 t2, .pointer none]] w1 fun e w' => e = .returned (.tuple #[.agg CZ.toArray, .bool false]) ∧ R w1 w')
    (hR : ∀ w1 w' c, BW w w1 → R w1 w' → w.heap.size ≤ c → c < w1.heap.size → w'.heap[c]? = w1.heap[c]?) :
    Calls Tryd.prog 7 #[.pointer (some ⟨t, 0, none⟩), .agg cs.toArray, .agg #[.int .u64 t1, .int .i64 t2, .pointer none]] w fun e w'' => AddPost R w e w'' := by
  have hu39 := Tryd.underlying39
  have hi39 := size39 hl
  have r1 : (((w.alloc (.cells cs.toArray 39)).alloc (.cells #[.int .u64 t1, .int .i64 t2, .pointer none] 46)).alloc (.cells CZ.toArray 39)).rangeAt w.heap.size 0 cs := addW_con w cs t1 t2
  have r3 := addW_res w cs t1 t2
  have sz := addW_size w cs t1 t2
  have HC := hc _ (addW_bw w cs t1 t2)
  have HB : Hid (BW w (addW w cs t1 t2)) := addW_bw w cs t1 t2
  have HR : Hid (∀ w1 w' c, BW w w1 → R w1 w' → w.heap.size ≤ c → c < w1.heap.size → w'.heap[c]? = w1.heap[c]?) := hR
  have hs39 := size39 CZ_len
  have h139 := CZ_one
  clear hc hR
  go_enter Tryd.func7, Tryd.ntmps7
  go_wp2_with (first | with_reducible refine wpList_alloc39 rfl rfl ?_ | (with_reducible refine wpList_load_mid rfl _ _ rfl _ _ rfl _ _ r1 hu39 rfl hi39 ?_) | (go_at_call 14; refine HC.mono ?_; rintro e w1 ⟨rfl, hP⟩; have ht3 : w1.there (w.heap.size + 2) 0 CZ.length := by (rw [CZ_len]; exact there_block r3 (HR.out _ _ _ HB.out hP (by omega) (by omega)))) | refine wpList_store_mid rfl _ _ _ rfl _ _ _ rfl rfl ht3 hs39 (all_oneCell_toArray h139) ?_)
  refine bodyPost_ret (results_cell2 (p := 6) (u := 7) rfl _ _ (w.heap.size + 2) 0 CZ _ rfl (World.rangeAt_setCells_same _ _ _ _ ht3) hu39 rfl hs39) rfl ?_
  exact ⟨rfl, _, w1, HB.out, hP, BX.setCells ((BW.self w1).bx _) 0 CZ, by omega⟩

set_option maxRecDepth 100000 in
set_option maxHeartbeats 2000000 in
theorem zzentry_of (t : Nat) (cs : List Value) (hl : cs.length = 24) (v : Value) (w : World)
    (hc : ∀ w1, BW w w1 → Calls Tryd.prog 16 #[.pointer (some ⟨t, 0, none⟩), .agg cs.toArray] w1 fun e w' => e = .returned v ∧ BW w1 w') :
    Calls Tryd.prog 9 #[.pointer (some ⟨t, 0, none⟩), .agg cs.toArray] w fun e w' => e = .returned v ∧ BW w w' := by
  have hu39 := Tryd.underlying39
  have hi39 := size39 hl
  have r1 := range_new w cs 39
  have HB := BW.new w (.cells cs.toArray 39)
  have HC := hc _ HB
  clear hc
  go_enter Tryd.func9, Tryd.ntmps9
  go_wp2_with (first | (with_reducible refine wpList_load_mid rfl _ _ rfl _ _ rfl _ _ r1 hu39 rfl hi39 ?_) | (go_at_call 16; refine HC.mono ?_; rintro e w1 ⟨rfl, hP⟩))
  go_ret
  exact ⟨rfl, HB.then hP⟩

end Go.Proofs.Qxb6616992aDoor
