import Derived.Test.Qxb6616992aDoorBld
import Derived.Deep.AppendLies
import Derived.Deep.RegionLaw
namespace Go.Proofs.Qxb6616992aDoor
open Go.RowKit

/-- behind w nothing that lay in w has turned, but in block b -/
structure BX (b : Nat) (w w' : World) : Prop where
  os : w'.os = w.os
  tape : w'.tape = w.tape
  output : w'.output = w.output
  size : w.heap.size ≤ w'.heap.size
  block : ∀ k, k < w.heap.size → k ≠ b → w'.heap[k]? = w.heap[k]?

theorem BW.bx {w w' : World} (h : BW w w') (b : Nat) : BX b w w' := ⟨h.out.os, h.out.tape, h.out.output, h.out.size, fun k hk _ => h.out.block k hk⟩
theorem BX.then {b : Nat} {w w' w'' : World} (h : BX b w w') (k : BX b w' w'') : BX b w w'' :=
  ⟨k.os.trans h.os, k.tape.trans h.tape, k.output.trans h.output, Nat.le_trans h.size k.size, fun i hi hb => (k.block i (Nat.lt_of_lt_of_le hi h.size) hb).trans (h.block i hi hb)⟩
theorem BX.set (w : World) (b o : Nat) (v : Value) : BX b w (w.setCell ⟨b, o, none⟩ v) :=
  ⟨rfl, rfl, rfl, by simp [World.setCell], fun k _ hb => Below.heap_setCell _ _ _ _ hb⟩
/-- writes into a block that is made later -/
theorem BX.set_new {b : Nat} {w w' : World} (h : BX b w w') (a : Addr) (v : Value) (ha : w.heap.size ≤ a.block) : BX b w (w'.setCell a v) :=
  ⟨h.os, h.tape, h.output, by simpa [World.setCell] using h.size, fun k hk hb => (Below.heap_setCell _ _ _ _ (by omega)).trans (h.block k hk hb)⟩
theorem BX.cell {b : Nat} {w w' : World} {a : Addr} {v : Value} (h : BX b w w') (hb : a.block ≠ b) (hc : w.cell? a = some v) : w'.cell? a = some v :=
  (World.cell?_of_block (w := w) (h.block a.block (World.block_lt_of_cell? w _ hc) hb)).trans hc
theorem BX.range {b : Nat} {w w' : World} {c o : Nat} {cs : List Value} (h : BX b w w') (hb : c ≠ b) (hc : w.rangeAt c o cs) : w'.rangeAt c o cs := fun j v hv => h.cell hb (hc j v hv)
theorem BX.there {b : Nat} {w w' : World} {c o n : Nat} (h : BX b w w') (hb : c ≠ b) (hc : w.there c o n) : w'.there c o n := fun j hj => by
  obtain ⟨h1, h2⟩ := hc j hj
  obtain ⟨v, hv⟩ := Option.isSome_iff_exists.1 h1
  exact ⟨by rw [h.cell hb hv]; rfl, (World.frozen?_of_block (w := w) (a := ⟨c, o + j, none⟩) (h.block c (World.block_lt_of_cell? w _ hv) hb)).trans h2⟩
theorem BX.tab {b : Nat} {w w' : World} {t bb : Nat} {own : List Int} {k : Int} (h : BX b w w') (hb : t ≠ b) (hT : Tab w t bb own k) : Tab w' t bb own k :=
  ⟨hT.len, h.range hb hT.own, h.cell hb hT.k, h.cell hb hT.bks⟩
theorem BW.there {w w' : World} {c o n : Nat} (h : BW w w') (hc : w.there c o n) : w'.there c o n := fun j hj => by
  obtain ⟨h1, h2⟩ := hc j hj
  obtain ⟨v, hv⟩ := Option.isSome_iff_exists.1 h1
  exact ⟨by rw [h.cell hv]; rfl, (World.frozen?_of_block (w := w) (a := ⟨c, o + j, none⟩) (h.out.block c (World.block_lt_of_cell? w _ hv))).trans h2⟩

theorem there_setCell {w : World} {c o n : Nat} (h : w.there c o n) (a : Addr) (v : Value) : (w.setCell a v).there c o n := fun j hj => by
  obtain ⟨h1, h2⟩ := h j hj
  obtain ⟨u, hu⟩ := Option.isSome_iff_exists.1 h1
  refine ⟨?_, by rw [World.frozen?_setCell]; exact h2⟩
  by_cases e : a = ⟨c, o + j, none⟩
  · subst e; rw [World.cell?_setCell_same _ _ _ hu]; rfl
  · rw [World.cell?_setCell_other _ _ _ _ e, hu]; rfl

set_option maxHeartbeats 1000000 in
theorem del_none (f : Value) (w : World) :
    Calls Tryd.prog 34 #[.slice none 0 0, f] w fun e w' => e = .returned (.slice none 0 0) ∧ w' = w := by
  go_enter Tryd.func34, Tryd.ntmps34
  go_wp2_with (go_at_call 31; refine (idx_none _ _).mono ?_; rintro e w1 ⟨rfl, rfl⟩)
  go_ret
  exact ⟨rfl, rfl⟩

theorem wp_bs {o : Oper} {a : Act} {w : World} {K : Act → World → Prop} {Q : Exit → Act → World → Prop} (x : Operand) (es : List Value) (ho : o.op = .buildSlice 53 1 #[(0, x)]) (hx : a.eval x = .agg es.toArray)
    (hB : ∀ w, (Instr.buildSlice 53 1 #[(0, .agg es.toArray)]).run Tryd.prog w = .ok (.slice (some ⟨w.heap.size, 0, none⟩) 1 1) (w.alloc (.cells es.toArray 66)))
    (hk : K (a.put o.dst (.slice (some ⟨w.heap.size, 0, none⟩) 1 1)) (w.alloc (.cells es.toArray 66))) : o.wp Tryd.prog a w K Q := by
  unfold Oper.wp execOp
  simp only [ho, Sem.run_bind, List.map_toArray, List.map_cons, List.map_nil, hx, hB, Result.andThen_ok]
  exact hk

theorem grown_keep {W w5 : World} {o : Obj} (h : (W.drew.alloc o).grownBy w5 none) : BW W w5 :=
  ⟨h.os, h.tape, h.output, Nat.le_trans (by simp) h.size, fun k hk => (h.block k (by simp; omega) (by simp)).trans (Below.heap_alloc W.drew o k hk)⟩

theorem owns_range {w : World} {base g cap : Nat} {es : List Value} (h : w.ownsRow base 66 28 (.slice (some ⟨g, 0, none⟩) (0 + 1) cap) (0 + 1) ([] ++ es)) : w.rangeAt g 0 es ∧ w.there g 0 28 := by
  obtain ⟨hl, h⟩ := h
  rcases h with ⟨h, _⟩ | ⟨g', cap', cur, hv, _, hh, hn, _, hcs, hx⟩
  · cases h
  · cases hv
    rw [List.nil_append] at hx hl
    refine ⟨fun j v hv => ?_, fun j hj => ?_⟩
    · rw [World.cell?, Nat.zero_add, hh]
      have hj := (List.getElem?_eq_some_iff.1 hv).1
      rw [← hx, List.getElem?_take_of_lt (by omega)] at hv
      simpa using hv
    · constructor
      · rw [World.cell?, Nat.zero_add, hh]
        simp
        omega
      · rw [World.frozen?, hh]
        simp

end Go.Proofs.Qxb6616992aDoor
