import Derived.Test.Qxb6616992aDoorPlc
import Derived.Great.Walk
import Derived.Laws.ResultCell
namespace Go.Proofs.Qxb6616992aDoor
open Go.RowKit

set_option maxRecDepth 100000 in
theorem info39m : (Tryd.prog.info? 39).map (fun i => (i.zero, i.size)) = some (some (.agg CZ.toArray), 24) := by kernel_rfl
theorem info39 : ∃ i, Tryd.prog.info? 39 = some i ∧ i.zero = some (.agg CZ.toArray) ∧ i.size = 24 := by
  have h := info39m
  cases hi : Tryd.prog.info? 39 with
  | none => rw [hi] at h; cases h
  | some i =>
    rw [hi] at h
    simp only [Option.map_some, Option.some.injEq, Prod.mk.injEq] at h
    exact ⟨i, rfl, h.1, h.2⟩
theorem size39 {cs : List Value} (h : cs.length = 24) : (Tryd.prog.info? 39).map (·.size) = some cs.length := by
  obtain ⟨i, hi, _, hs⟩ := info39
  rw [hi, h]
  exact congrArg some hs
theorem CZ_len : CZ.length = 24 := by decide
theorem CZ_one : ∀ v ∈ CZ, v.oneCell' = true := by decide

section
variable {ops : Array Oper} {rest : List Oper} {o : Oper} {a : Act} {w : World} {Q : Exit → Act → World → Prop}

theorem wpList_alloc39 (hg : o.guard = none) (ho : o.op = .alloc 39)
    (h : wpList Tryd.prog ops Q rest (a.put o.dst (.pointer (some ⟨w.heap.size, 0, none⟩))) (w.alloc (.cells CZ.toArray 39))) : wpList Tryd.prog ops Q (o :: rest) a w := by
  obtain ⟨i, hi, hz, _⟩ := info39
  refine Great.wpList_runTo hg _ rfl _ _ ?_ h
  unfold execOp
  simp only [ho, Instr.alloc, zeroValue, typeInfo, newVar, newRow, Sem.run_bind, Sem.run_pure, Value.cells]
  simp [hi, hz]

theorem wpList_build0 (hg : o.guard = none) (ho : o.op = .build 39 #[])
    (h : wpList Tryd.prog ops Q rest (a.put o.dst (.agg CZ.toArray)) w) : wpList Tryd.prog ops Q (o :: rest) a w := by
  refine Great.wpList_runTo hg _ rfl _ _ ?_ h
  unfold execOp
  simp only [ho, Sem.run_bind, List.map_toArray, List.map_nil, build0, Result.andThen_ok, Sem.run_pure]

end

theorem there_new (w : World) (cs : List Value) (t : TypeId) (n : Nat) (hn : n ≤ cs.length) : (w.alloc (.cells cs.toArray t)).there w.heap.size 0 n := fun j hj => by
  have h := heap_alloc_new w (.cells cs.toArray t)
  constructor
  · rw [World.cell?, h]; simp; omega
  · rw [World.frozen?, h]; simp

theorem BW.setCells {w w' : World} (h : BW w w') (b o : Nat) (vs : List Value) (hb : w.heap.size ≤ b) : BW w (w'.setCells b o vs) := by
  induction vs generalizing w' o with
  | nil => exact h
  | cons v r ih => exact ih (BW.of (Below.setCell h.out (p := ⟨b, o, none⟩) hb v)) (o + 1)

theorem results_cell {fn : Func} {p : Tmp} {ty : TypeId} (h : fn.results = #[.cell p ty]) (tmps : Array Value) (w : World) (b o : Nat) (cs : List Value) (d : TypeDesc)
    (hp : tmps.getD p undef = .pointer (some ⟨b, o, none⟩)) (hc : w.rangeAt b o cs) (hu : Tryd.prog.underlying ty = some d) (hd : d.isRow = true) (hi : (Tryd.prog.info? ty).map (·.size) = some cs.length) :
    (results fn tmps).run Tryd.prog w = .ok (.agg cs.toArray) w := by
  have hp' : tmps[p]?.getD undef = .pointer (some ⟨b, o, none⟩) := by simpa using hp
  simp [results, h, hp', asAddr, run_loadVar_mid w b o ty cs d hc hu hd hi]

theorem results_cell2 {fn : Func} {p u : Tmp} {ty : TypeId} (h : fn.results = #[.cell p ty, .tmp u]) (tmps : Array Value) (w : World) (b o : Nat) (cs : List Value) (d : TypeDesc)
    (hp : tmps.getD p undef = .pointer (some ⟨b, o, none⟩)) (hc : w.rangeAt b o cs) (hu : Tryd.prog.underlying ty = some d) (hd : d.isRow = true) (hi : (Tryd.prog.info? ty).map (·.size) = some cs.length) :
    (results fn tmps).run Tryd.prog w = .ok (.tuple #[.agg cs.toArray, tmps.getD u undef]) w := by
  rw [results_cell_tmp h, hp]
  simp [asAddr, run_loadVar_mid w b o ty cs d hc hu hd hi]

set_option maxRecDepth 100000 in
set_option maxHeartbeats 1000000 in
theorem none_any (w : World) :
    Calls Tryd.prog 5 #[] w fun e w' => e = .returned (.agg CZ.toArray) ∧ BW w w' := by
  have hu := Tryd.underlying39
  have ht := there_new w CZ 39 24 (by rw [CZ_len]; decide)
  have hs := size39 CZ_len
  have h1 := CZ_one
  have hl := CZ_len
  go_enter Tryd.func5, Tryd.ntmps5
  go_wp2_with (first | with_reducible refine wpList_alloc39 rfl rfl ?_ | with_reducible refine wpList_build0 rfl rfl ?_ | with_reducible refine wpList_store_mid rfl _ _ _ rfl _ _ _ rfl rfl ht hs (all_oneCell_toArray h1) ?_)
  refine bodyPost_ret (results_cell (p := 0) rfl _ _ w.heap.size 0 CZ _ rfl (World.rangeAt_setCells_same _ _ _ _ ht) hu rfl hs) rfl ?_
  exact ⟨rfl, (BW.new w _).setCells _ _ _ (Nat.le_refl _)⟩

end Go.Proofs.Qxb6616992aDoor
