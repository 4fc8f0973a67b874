import Derived.Test.Qxb6616992aDoorPre
import Derived.BigQuiet
namespace Go.Proofs.Qxb6616992aDoor
open Go.RowKit

section
variable {P : Program} {ops : Array Oper} {C : World → Prop} {Q : Act → Prop} {a : Act} {o : Oper} {rest : List Oper}

/-- one operation that yields its value in every world of the class -/
theorem wpQuiet_run {v : Value} (hw : Region.wanted o (yielded ops a.tmps) = true) (h : ∀ w, C w → (execOp a.eval o).run P w = .ok (.value v) w)
    (hk : wpQuiet P ops C Q rest (a.put o.dst v)) : wpQuiet P ops C Q (o :: rest) a :=
  BigFrame.wpQuiet_want hw fun _ hK => ⟨v, fun w hC => by unfold Oper.quietAt; rw [h w hC]; exact ⟨rfl, rfl⟩, hK _ hk⟩

theorem wpQuiet_load (hw : Region.wanted o (yielded ops a.tmps) = true) (ty : TypeId) (x : Operand) (ho : o.op = .load ty x)
    (b off : Nat) (hx : a.eval x = .pointer (some ⟨b, off, none⟩)) (cs : List Value) (d : TypeDesc) (hS : ∀ w, C w → w.rangeAt b off cs)
    (hu : P.underlying ty = some d) (hd : d.isRow = true) (hi : (P.info? ty).map (·.size) = some cs.length)
    (hk : wpQuiet P ops C Q rest (a.put o.dst (.agg cs.toArray))) : wpQuiet P ops C Q (o :: rest) a :=
  wpQuiet_run hw (fun w hC => by
    unfold execOp
    simp only [ho, hx, Instr.loadAt, Instr.sureAddr, Sem.run_bind, Sem.run_pure, Result.andThen_ok, run_loadVar_mid w b off ty cs d (hS w hC) hu hd hi]) hk

theorem wpQuiet_call {v : Value} {f : FuncId} {args : Array Value} (hw : Region.wanted o (yielded ops a.tmps) = true) (he : ∀ w, (execOp a.eval o).run P w = .ok (.enter f args) w)
    (h : ∀ w, C w → Calls P f args w (fun e w' => e = .returned v ∧ C w'))
    (hk : wpQuiet P ops C Q rest (a.put o.dst v)) : wpQuiet P ops C Q (o :: rest) a :=
  BigFrame.wpQuiet_want hw fun _ hK => ⟨v, fun w hC => by unfold Oper.quietAt; rw [he w]; exact ⟨rfl, h w hC⟩, hK _ hk⟩

/-- the region's beginning, at the class 'below the heap as it was nothing has turned' -/
theorem wp_region_below {id : Nat} {R : Exit → Act → World → Prop} {w : World} {l : List Oper} (hm : P.follows .mixedOrders = true) (hB : Region.lexB .any l.toArray = true)
    (h : wpQuiet P l.toArray (fun w' => Below w.heap.size w w') (fun a' => ∀ w', Below w.heap.size w w' → R .normal a' w') l a) : (Code.region id l.toArray true).wp P R a w :=
  wp_region_quiet (C := fun w' => Below w.heap.size w w') hm hB (Below.refl _ _).drew (by simpa using h)
end

end Go.Proofs.Qxb6616992aDoor
