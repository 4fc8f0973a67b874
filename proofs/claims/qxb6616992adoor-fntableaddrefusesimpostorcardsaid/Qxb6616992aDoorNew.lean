import Derived.Test.Qxb6616992aDoorAdr
namespace Go.Proofs.Qxb6616992aDoor
open Go.RowKit

/-- a table is handed back that is new and empty -/
def NewTab (w : World) (own : List Int) (k : Int) (e : Ending) (w' : World) : Prop :=
  ∃ t bb : Nat, w.heap.size ≤ t ∧ w.heap.size ≤ bb ∧ t ≠ bb ∧ e = .returned (.pointer (some ⟨t, 0, none⟩)) ∧ BW w w' ∧ Tab w' t bb own k ∧
    w'.cell? ⟨bb, 0, none⟩ = some (.slice none 0 0) ∧ w'.cell? ⟨bb, 1, none⟩ = some (.slice none 0 0) ∧ w'.there bb 0 6

theorem wpList_build58 {ops : Array Oper} {rest : List Oper} {o : Oper} {a : Act} {w : World} {Q : Exit → Act → World → Prop} (hg : o.guard = none) (x y u : Operand) (ho : o.op = .build 58 #[(0, x), (1, y), (2, u)])
    (own : List Int) (hl : own.length = 20) (k : Int) (s : Option Addr) (n c : Nat) (hx : a.eval x = .agg (C own).toArray) (hy : a.eval y = .int .i64 k) (hv : a.eval u = .slice s n c)
    (h : wpList Tryd.prog ops Q rest (a.put o.dst (.agg (C own ++ ([.int .i64 k, .slice s n c] : List Value)).toArray)) w) : wpList Tryd.prog ops Q (o :: rest) a w := by
  refine Great.wpList_runTo hg _ rfl _ _ ?_ h
  unfold execOp
  simp only [ho, Sem.run_bind, List.map_toArray, List.map_cons, List.map_nil, hx, hy, hv, build58 own hl, Result.andThen_ok, Sem.run_pure]

set_option maxRecDepth 100000 in
set_option maxHeartbeats 1000000 in
theorem new_any (own : List Int) (k : Int) (w : World) (hl : own.length = 20) :
    Calls Tryd.prog 4 #[.agg (C own).toArray, .int .i64 k] w fun e w' => NewTab w own k e w' := by
  have hu := Tryd.underlying22
  have hi := size22 hl
  have r1 := range_new w (C own) 22
  go_enter Tryd.func4, Tryd.ntmps4
  go_wp2_with (first | with_reducible refine wpList_load_mid rfl _ _ rfl _ _ rfl _ _ r1 hu rfl hi ?_ | with_reducible refine wpList_build58 rfl _ _ _ rfl own hl _ _ _ _ rfl rfl rfl ?_)
  go_ret
  have e2 : ((w.alloc (.cells (C own).toArray 22)).alloc (.cells #[.slice none 0 0, .slice none 0 0, .int .u64 0, .int .i64 0, .pointer none, .bool false] 55)).heap.size = w.heap.size + 1 + 1 := by simp
  have e1 : (w.alloc (.cells (C own).toArray 22)).heap.size = w.heap.size + 1 := by simp
  have rT := range_new ((w.alloc (.cells (C own).toArray 22)).alloc (.cells #[.slice none 0 0, .slice none 0 0, .int .u64 0, .int .i64 0, .pointer none, .bool false] 55)) (C own ++ ([.int .i64 k, .slice (some ⟨w.heap.size + 1, 0, none⟩) 1 1] : List Value)) 58
  have hb3 := BW.new ((w.alloc (.cells (C own).toArray 22)).alloc (.cells #[.slice none 0 0, .slice none 0 0, .int .u64 0, .int .i64 0, .pointer none, .bool false] 55)) (.cells (C own ++ ([.int .i64 k, .slice (some ⟨w.heap.size + 1, 0, none⟩) 1 1] : List Value)).toArray 58)
  have rB := hb3.range (range_new (w.alloc (.cells (C own).toArray 22)) [.slice none 0 0, .slice none 0 0, .int .u64 0, .int .i64 0, .pointer none, .bool false] 55)
  have tB := hb3.there (there_new (w.alloc (.cells (C own).toArray 22)) [.slice none 0 0, .slice none 0 0, .int .u64 0, .int .i64 0, .pointer none, .bool false] 55 6 (by decide))
  have hbw := (BW.new w (.cells (C own).toArray 22)).then ((BW.new _ _).then hb3)
  rw [e2] at rT
  rw [e1] at rB tB
  have rK := range_right rT
  rw [C_len, hl, Nat.zero_add] at rK
  exact ⟨w.heap.size + 1 + 1, w.heap.size + 1, by omega, by omega, by omega, rfl, hbw, ⟨hl, range_left rT, rK 0 _ rfl, rK 1 _ rfl⟩, rB 0 _ rfl, rB 1 _ rfl, tB⟩

end Go.Proofs.Qxb6616992aDoor
