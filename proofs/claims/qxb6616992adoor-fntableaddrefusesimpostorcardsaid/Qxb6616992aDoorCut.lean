import Derived.Test.Qxb6616992aDoorThr
namespace Go.Proofs.Qxb6616992aDoor
open Go.RowKit

/-- a piece of the code behind which the frame and the world are told by one number -/
theorem wp_cutN {P : Program} {c : Code} {Q : Exit → Act → World → Prop} {a : Act} {w : World} (G : Act → Nat → Act) (Φ : Nat → World → Prop)
    (h : c.wp P (fun e a' w' => e = .normal ∧ ∃ b, a' = G a b ∧ Φ b w') a w) (k : ∀ b w', Φ b w' → Q .normal (G a b) w') : c.wp P Q a w :=
  Code.wp_mono (fun e a' w' ⟨he, b, ha, hΦ⟩ => by subst he; subst ha; exact k b w' hΦ) h

theorem wp_alloc39 {o : Oper} {a : Act} {w : World} {K : Act → World → Prop} {Q : Exit → Act → World → Prop} (ho : o.op = .alloc 39)
    (hk : K (a.put o.dst (.pointer (some ⟨w.heap.size, 0, none⟩))) (w.alloc (.cells CZ.toArray 39))) : o.wp Tryd.prog a w K Q := by
  obtain ⟨i, hi, hz, _⟩ := info39
  have h : (execOp a.eval o).run Tryd.prog w = .ok (.value (.pointer (some ⟨w.heap.size, 0, none⟩))) (w.alloc (.cells CZ.toArray 39)) := by
    unfold execOp
    simp only [ho, Instr.alloc, zeroValue, typeInfo, newVar, newRow, Sem.run_bind, Sem.run_pure, Value.cells]
    simp [hi, hz]
  unfold Oper.wp
  rw [h, Oper.upon_value]
  exact hk

/-- a load that a guard lets come up -/
theorem wpList_load_want {P : Program} {ops : Array Oper} {rest : List Oper} {op : Oper} {a : Act} {w : World} {Q : Exit → Act → World → Prop} (ty : TypeId) (x : Operand) (ho : op.op = .load ty x)
    (b o : Nat) (hx : a.eval x = .pointer (some ⟨b, o, none⟩)) (cs : List Value) (d : TypeDesc) (hc : w.rangeAt b o cs)
    (hu : P.underlying ty = some d) (hd : d.isRow = true) (hi : (P.info? ty).map (·.size) = some cs.length) (hw : Region.wanted op (yielded ops a.tmps) = true)
    (h : wpList P ops Q rest (a.put op.dst (.agg cs.toArray)) w) : wpList P ops Q (op :: rest) a w :=
  BigFrame.wpList_want hw fun _ hK => wp_load_mid ty x ho b o hx cs d hc hu hd hi (hK _ _ h)

/-- what a relation between the worlds ahead of and behind an add must bear: R's three laws -/
structure Bears (R : World → World → Prop) (bad : Nat → Prop) : Prop where
  block : ∀ {w w'}, R w w' → ∀ i, i < w.heap.size → ¬ bad i → w'.heap[i]? = w.heap[i]?
  size : ∀ {w w'}, R w w' → w.heap.size ≤ w'.heap.size
  wrap : ∀ {w w3 w4 w5 q}, R w3 w4 → BW w w3 → w.heap.size ≤ q → q < w3.heap.size → ¬ bad q → BX q w4 w5 → R w w5
  more : ∀ {w w3 w4 w5}, R w3 w4 → BW w w3 → BW w4 w5 → R w w5

theorem bears_placed (bb : Nat) (es : List Value) : Bears (fun w w' => Placed w bb es w') (fun i => i = bb) where
  block h i hi hb := h.1.block i hi hb
  size h := h.1.size
  wrap h hb hq hq3 hbad hx := h.wrapX hb hq hq3 hbad hx
  more h hb hx := by
    obtain ⟨h1, h2, g, cap, hg, hc, hr, ht⟩ := h
    exact ⟨(hb.bx bb).then (h1.then (hx.bx bb)), hx.there h2, g, cap, Nat.le_trans hb.out.size hg, hx.cell hc, hx.range hr, hx.there ht⟩

theorem bears_bw : Bears (fun w w' => BW w w') (fun _ => False) where
  block h i hi _ := h.out.block i hi
  size h := h.out.size
  wrap h hb hq _ _ hx := (hb.then h).bx_then hx hq
  more h hb hx := hb.then (h.then hx)

theorem bears_heard (bb g cap : Nat) (es : List Value) : Bears (fun w w' => Heard w bb g cap es w') (fun i => i = bb ∨ i = g) where
  block h i hi hb := h.2.2.2.2.1 i hi (fun e => hb (.inl e)) (fun e => hb (.inr e))
  size h := h.2.2.2.1
  wrap h hb hq hq3 hbad hx := by
    obtain ⟨a1, a2, a3, a4, a5, a6, a7⟩ := h
    have ho := hb.out
    refine ⟨hx.os.trans (a1.trans ho.os), hx.tape.trans (a2.trans ho.tape), hx.output.trans (a3.trans ho.output), Nat.le_trans ho.size (Nat.le_trans a4 hx.size), fun i hi hib hig => ?_, hx.cell (fun e => hbad (.inl e.symm)) a6, hx.range (fun e => hbad (.inr e.symm)) a7⟩
    have := ho.size
    exact (hx.block i (by omega) (by omega)).trans ((a5 i (by omega) hib hig).trans (ho.block i hi))
  more h hb hx := by
    obtain ⟨a1, a2, a3, a4, a5, a6, a7⟩ := h
    have ho := hb.out
    have hxo := hx.out
    refine ⟨hxo.os.trans (a1.trans ho.os), hxo.tape.trans (a2.trans ho.tape), hxo.output.trans (a3.trans ho.output), Nat.le_trans ho.size (Nat.le_trans a4 hxo.size), fun i hi hib hig => ?_, hx.cell a6, hx.range a7⟩
    have := ho.size
    exact (hxo.block i (by omega)).trans ((a5 i (by omega) hib hig).trans (ho.block i hi))

theorem Bears.range {R : World → World → Prop} {bad : Nat → Prop} (h : Bears R bad) {w w' : World} (hR : R w w') {b o : Nat} {cs : List Value} (hb : ¬ bad b) (hc : w.rangeAt b o cs) : w'.rangeAt b o cs := fun j v hv => by
  have h1 := hc j v hv
  exact (World.cell?_of_block (w := w) (a := ⟨b, o + j, none⟩) (h.block hR b (World.block_lt_of_cell? w _ h1) hb)).trans h1

/-- the result's variable, made before the add, written behind it -/
theorem Bears.early {R : World → World → Prop} {bad : Nat → Prop} (h : Bears R bad) {w w3 w4 : World} {q : Nat} (hR : R w3 w4) (hb : BW w w3) (hq : w.heap.size ≤ q) (hbad : ¬ bad q) (ht : w3.there q 0 24) :
    w4.there q 0 CZ.toArray.size ∧ R w (w4.setCells q 0 CZ) ∧ (w4.setCells q 0 CZ).rangeAt q 0 CZ := by
  have hlt : q < w3.heap.size := (there_at ht 0 (by omega)).elim fun _ h => World.block_lt_of_cell? w3 _ h
  have ht4 : w4.there q 0 CZ.toArray.size := there_block ht (h.block hR q hlt hbad)
  exact ⟨ht4, h.wrap hR hb hq hlt hbad (BX.setCells ((BW.self w4).bx q) 0 CZ), World.rangeAt_setCells_same _ _ _ _ ht4⟩

/-- the result's variable, made and written behind the add -/
theorem Bears.late {R : World → World → Prop} {bad : Nat → Prop} (h : Bears R bad) {w w3 w4 : World} (hR : R w3 w4) (hb : BW w w3) :
    R w ((w4.alloc (.cells CZ.toArray 39)).setCells w4.heap.size 0 CZ) ∧ ((w4.alloc (.cells CZ.toArray 39)).setCells w4.heap.size 0 CZ).rangeAt w4.heap.size 0 CZ :=
  ⟨h.more hR hb (var39 w4 CZ CZ_len).1, (var39 w4 CZ CZ_len).2⟩

end Go.Proofs.Qxb6616992aDoor
