import Derived.Test.Qxb6616992aDoorQui
namespace Go.Proofs.Qxb6616992aDoor
open Go.RowKit

theorem Tryd.size27 : (Tryd.prog.info? 27).map (·.size) = some 20 := by kernel_rfl
theorem size27 {xs : List Int} (h : xs.length = 20) : (Tryd.prog.info? 27).map (·.size) = some (C xs).length := by rw [Tryd.size27, C_len, h]
theorem C_one (xs : List Int) : ∀ v ∈ C xs, v.oneCell' = true := by
  intro v hv
  obtain ⟨x, _, rfl⟩ := List.mem_map.1 hv
  rfl

theorem range_new (w : World) (cs : List Value) (t : TypeId) : (w.alloc (.cells cs.toArray t)).rangeAt w.heap.size 0 cs := by
  intro j v hv
  have h := heap_alloc_new w (.cells cs.toArray t)
  simp only [World.cell?, h]
  simpa using hv

theorem range_below {w w' : World} {b o : Nat} {cs : List Value} (h : w.rangeAt b o cs) (hb : Below w.heap.size w w') : w'.rangeAt b o cs := by
  intro j v hv
  have hc := h j v hv
  exact (hb.cell (World.block_lt_of_cell? w _ hc)).trans hc

theorem cell_below {w w' : World} {a : Addr} {v : Value} (h : w.cell? a = some v) (hb : Below w.heap.size w w') : w'.cell? a = some v :=
  (hb.cell (World.block_lt_of_cell? w _ h)).trans h

/-- A table with its one bucket. -/
structure Tab (w : World) (t bb : Nat) (own : List Int) (k : Int) : Prop where
  len : own.length = 20
  own : w.rangeAt t 0 (C own)
  k : w.cell? ⟨t, 20, none⟩ = some (.int .i64 k)
  bks : w.cell? ⟨t, 21, none⟩ = some (.slice (some ⟨bb, 0, none⟩) 1 1)

theorem Tab.next {w w' : World} {t bb : Nat} {own : List Int} {k : Int} (h : Tab w t bb own k) (hb : Below w.heap.size w w') : Tab w' t bb own k :=
  ⟨h.len, range_below h.own hb, cell_below h.k hb, cell_below h.bks hb⟩

set_option maxRecDepth 100000 in
set_option maxHeartbeats 1000000 in
theorem bucket_any (t bb : Nat) (own id : List Int) (k : Int) (w : World) (hT : Tab w t bb own k) (hid : id.length = 20) :
    Calls Tryd.prog 18 #[.pointer (some ⟨t, 0, none⟩), .agg (C id).toArray] w fun e w' => e = .returned (.int .i64 0) ∧ Below w.heap.size w w' := by
  have hu := Tryd.underlying27
  have hi := size27 hT.len
  have hi2 := size27 hid
  have HL1 : Hid (own.length = 20) := hT.len
  have HL2 : Hid (id.length = 20) := hid
  have r1 : (w.alloc (.cells (C id).toArray 27)).rangeAt t 0 (C own) := World.rangeAt_alloc hT.own _
  have r2 := range_new w (C id) 27
  have hb1 : Below w.heap.size w (w.alloc (.cells (C id).toArray 27)) := (Below.refl _ _).alloc (Nat.le_refl _) _
  have r3 : (w.alloc (.cells (C id).toArray 27)).cell? ⟨t, 21, none⟩ = some (.slice (some ⟨bb, 0, none⟩) 1 1) := cell_below hT.bks hb1
  have hm := pref_nonneg own id
  clear hT
  go_enter Tryd.func18, Tryd.ntmps18
  go_wp2
  generalize w.alloc (.cells (C id).toArray 27) = w1 at r1 r2 r3 hb1 ⊢
  have hk : ∀ w', Below w1.heap.size w1 w' → w'.cell? ⟨t, 21, none⟩ = some (.slice (some ⟨bb, 0, none⟩) 1 1) := fun w' h => cell_below r3 h
  refine wp_region_below (by kernel_rfl) (by kernel_rfl) ?_
  repeat (first
    | (refine wpQuiet_load rfl _ _ rfl _ _ rfl _ _ (fun w' hw' => range_below (by assumption) hw') hu rfl (by assumption) ?_
       simp only [Act.put, List.setIfInBounds_toArray, List.set_cons_zero, List.set_cons_succ])
    | (refine wpQuiet_run (v := ?_) rfl (fun w' hw' => ?_) ?_
       rotate_left
       · (go_simp; with_reducible rfl)
       simp only [Act.put, List.setIfInBounds_toArray, List.set_cons_zero, List.set_cons_succ])
    | (refine wpQuiet_call (f := 30) (args := #[.agg (C own).toArray, .agg (C id).toArray]) (v := .int .i64 (pref own id)) rfl (fun w' => ?_) (fun w' hw' => (prefix_any own id _ HL1 HL2).mono ?_) ?_
       · go_simp
       · (rintro e w2 ⟨rfl, hb⟩; exact ⟨rfl, hw'.trans (hb.mono hw'.size)⟩)
       simp only [Act.put, List.setIfInBounds_toArray, List.set_cons_zero, List.set_cons_succ]))
  refine wpQuiet_nil ?_
  intro w' hw'
  go_wp2
  go_ret
  exact ⟨by have hz : IntKind.i64.wrap 0 = 0 := by decide
            simp [hz]; omega, hb1.trans (hw'.mono hb1.size)⟩

end Go.Proofs.Qxb6616992aDoor
