import Derived.Test.Qxb6616992aDoorEqs
namespace Go.Proofs.Qxb6616992aDoor
open Go.RowKit

theorem size66 {cs : List Value} (h : cs.length = 28) : (Tryd.prog.info? 66).map (·.size) = some cs.length := by
  rw [h]; kernel_rfl

set_option maxRecDepth 100000 in
set_option maxHeartbeats 1000000 in
/-- IndexFunc of no entries -/
theorem idx_none (f : Value) (w : World) :
    Calls Tryd.prog 31 #[.slice none 0 0, f] w fun e w' => e = .returned (.int .i64 (-1)) ∧ w' = w := by
  go_enter Tryd.func31, Tryd.ntmps31
  go_wp2
  go_loopw [8] (fun i wr => i = .int .i64 0 ∧ wr = w) (fun _ _ => 0)
  case atStart => exact ⟨rfl, rfl⟩
  case round =>
    obtain ⟨rfl, rfl⟩ := hrel
    go_wp2
    go_ret
    exact ⟨rfl, rfl⟩

set_option maxRecDepth 100000 in
set_option maxHeartbeats 1000000 in
/-- IndexFunc of one entry that has the name -/
theorem idx_one (eb p cap : Nat) (id : List Int) (r : List Value) (w : World) (hid : id.length = 20) (hp : w.rangeAt p 0 (C id)) (he : w.rangeAt eb 0 (C id ++ r)) (hl : (C id ++ r).length = 28) :
    Calls Tryd.prog 31 #[.slice (some ⟨eb, 0, none⟩) 1 cap, .func (.func 32) #[] #[.pointer (some ⟨p, 0, none⟩)]] w fun e w' => e = .returned (.int .i64 0) ∧ Below w.heap.size w w' := by
  have hu := Tryd.underlying66
  have hi := size66 hl
  have hs := same_any p id r w hid hp
  generalize C id ++ r = cs at he hi hs
  clear hl
  go_enter Tryd.func31, Tryd.ntmps31
  go_wp2
  go_loopw [8] (fun i wr => i = .int .i64 0 ∧ wr = w) (fun _ _ => 0)
  case atStart => exact ⟨rfl, rfl⟩
  case round =>
    obtain ⟨rfl, rfl⟩ := hrel
    go_wp2_with (first | (with_reducible refine wpList_load_mid rfl _ _ rfl _ _ rfl _ _ (by assumption) hu rfl hi ?_) | (go_at_call 32; refine hs.mono ?_; rintro e w1 ⟨rfl, hb⟩))
    go_ret
    exact ⟨rfl, hb⟩

set_option maxRecDepth 100000 in
set_option maxHeartbeats 1000000 in
theorem index_none (t bb : Nat) (own id : List Int) (k : Int) (w : World) (hT : Tab w t bb own k) (h0 : w.cell? ⟨bb, 0, none⟩ = some (.slice none 0 0)) :
    Calls Tryd.prog 19 #[.pointer (some ⟨t, 0, none⟩), .int .i64 0, .agg (C id).toArray] w fun e w' => e = .returned (.int .i64 (-1)) ∧ Below w.heap.size w w' := by
  have hb1 : Below w.heap.size w (w.alloc (.cells (C id).toArray 27)) := (Below.refl _ _).alloc (Nat.le_refl _) _
  have c1 := cell_below hT.bks hb1
  have c2 := cell_below h0 hb1
  clear hT h0
  go_enter Tryd.func19, Tryd.ntmps19
  go_wp2_with (go_at_call 31; refine (idx_none _ _).mono ?_; rintro e w1 ⟨rfl, rfl⟩)
  go_ret
  exact ⟨rfl, hb1⟩

set_option maxRecDepth 100000 in
set_option maxHeartbeats 1000000 in
theorem index_one (t bb eb cap : Nat) (own id : List Int) (k : Int) (r : List Value) (w : World) (hT : Tab w t bb own k) (hid : id.length = 20) (h0 : w.cell? ⟨bb, 0, none⟩ = some (.slice (some ⟨eb, 0, none⟩) 1 cap))
    (he : w.rangeAt eb 0 (C id ++ r)) (hl : (C id ++ r).length = 28) :
    Calls Tryd.prog 19 #[.pointer (some ⟨t, 0, none⟩), .int .i64 0, .agg (C id).toArray] w fun e w' => e = .returned (.int .i64 0) ∧ Below w.heap.size w w' := by
  have hb1 : Below w.heap.size w (w.alloc (.cells (C id).toArray 27)) := (Below.refl _ _).alloc (Nat.le_refl _) _
  have c1 := cell_below hT.bks hb1
  have c2 := cell_below h0 hb1
  have hI := idx_one eb w.heap.size cap id r (w.alloc (.cells (C id).toArray 27)) hid (range_new w (C id) 27) (range_below he hb1) hl
  clear hT h0 he hl
  go_enter Tryd.func19, Tryd.ntmps19
  go_wp2_with (go_at_call 31; refine hI.mono ?_; rintro e w1 ⟨rfl, hb⟩)
  go_ret
  exact ⟨rfl, hb1.trans (hb.mono hb1.size)⟩

end Go.Proofs.Qxb6616992aDoor
