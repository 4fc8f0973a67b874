import Derived.Test.Qxb6616992aDoorCut
import Derived.Test.Qxb6616992aDoorRows
import Derived.ProofKit
import Derived.LaidMore
import Derived.OpenShut
import Derived.Stop.Joined
import Derived.ChangeKeysEq
namespace Go.Proofs.Qxb6616992aDoor
open Go.ChangeShapes Go.WideShapes Go.ChangeAt Go.WideMaps Go.WideElems Go.RowKit

set_option maxRecDepth 100000
/-- An array of bytes that is handed over by value, opened. -/
theorem open_arr {H : Type} {enc : TypeId × Value → H} {W : World} {base b0 : Nat} {r : Reach} {spare : Nat → Bool} {held : Bool} {t : TypeId} {n : Nat} {v : Value} {d : DataW H} {ps : List MemPlace}
    (ht : Tryd.prog.underlying t = some (.array n 5)) (hc : Tryd.prog.cellsOf t = n) (h1 : Tryd.prog.cellsOf 5 = 1)
    (hval : Value.okWide Tryd.prog W r b0 t v) (hd : DataW.Trod enc Tryd.prog W base spare held t v d ps) :
    ∃ xs : List Int, xs.length = n ∧ v = .agg (C xs).toArray ∧ ps = [] ∧ ∀ x ∈ xs, (Lit.int .u8 x).wf = true := by
  obtain ⟨fuel, hf⟩ := hd
  obtain ⟨ys, m, _, hx, hl, hn, hel⟩ := DataW.trod_array ht hf
  have hv : ∃ cs, v = .agg cs := by
    unfold Value.okWide at hval
    rw [ht] at hval
    obtain ⟨cs, hcs, _⟩ := hval
    exact ⟨cs, hcs⟩
  obtain ⟨cs, rfl⟩ := hv
  have hcells : (Value.agg cs).cells.toList = cs.toList := rfl
  rw [hcells] at hl hel
  rw [hc] at hl
  rw [h1] at hel
  have key : ∀ i, i < n → ∃ k, cs.toList[i]? = some (.int .u8 k) ∧ ys[i]? = some (.lit (.int .u8 k), []) ∧ (Lit.int .u8 k).wf = true := fun i hi => by
    have h := hel i hi
    have hyi : ys[i]? = some (ys[i]'(by omega)) := List.getElem?_eq_getElem (by omega)
    rw [hyi] at h
    obtain ⟨k, e1, e2, e3⟩ := DataW.trod_int Tryd.underlying5 h
    refine ⟨k, ?_, by rw [hyi, e2], e3⟩
    rw [Nat.mul_one] at e1
    exact (Array.getElem?_toList (xs := cs) (i := i)).trans (getElem?_of_chunk e1)
  refine ⟨cs.toList.map intOf, by simpa using hl, ?_, ?_, ?_⟩
  · refine congrArg Value.agg (Array.toList_inj.1 (List.ext_getElem? fun i => ?_))
    rcases Nat.lt_or_ge i n with hi | hi
    · obtain ⟨k, e1, _⟩ := key i hi
      simp only [C, List.map_map, List.getElem?_map, e1, Option.map_some]
      rfl
    · rw [List.getElem?_eq_none (by omega)]
      simp only [C, List.map_map, List.getElem?_map]
      rw [List.getElem?_eq_none (by omega)]
      rfl
  · have h2 := (Prod.mk.inj hx).2
    rw [h2]
    rw [List.flatMap_eq_nil_iff]
    intro y hy
    obtain ⟨i, hi, rfl⟩ := List.mem_iff_getElem.1 hy
    obtain ⟨k, _, e2, _⟩ := key i (by omega)
    rw [List.getElem?_eq_getElem hi] at e2
    rw [Option.some.inj e2]
  · intro x hx'
    obtain ⟨c, hc', rfl⟩ := List.mem_map.1 hx'
    obtain ⟨i, hi, rfl⟩ := List.mem_iff_getElem.1 hc'
    obtain ⟨k, e1, _, e3⟩ := key i (by omega)
    rw [List.getElem?_eq_getElem hi] at e1
    rw [Option.some.inj e1]
    exact e3

abbrev laidL : List (String × DataW Unit) := Rows.fnTableAddRefusesImpostorRow.laid
/-- the name of the listed variable -/
def zName : String := Rows.fnTableAddRefusesImpostorRow.named.headD ""
theorem gZ : Tryd.prog.globalNamed zName = some 0 := by kernel_rfl
theorem tZ : (Tryd.prog.globals[0]?).map (·.type) = some 33 := by kernel_rfl

/-- What the condition gives the walk: the handle of the v4 addresses is no nil pointer. -/
theorem of_laid {W : World} (h : laidMetH Tryd.prog laidL W) : ∃ z, W.cell? ⟨0, 0, none⟩ = some (.pointer (some z)) := by
  rw [MakeChecks.laidMetH_plain _ _ _ (by kernel_rfl)] at h
  obtain ⟨ps, ⟨g0, t0, cs0, f0, p0, q0, hg0, ht0, hv0, hd0, _⟩, _⟩ := h
  obtain rfl := Option.some.inj (gZ.symm.trans hg0)
  obtain rfl := Option.some.inj (tZ.symm.trans ht0)
  obtain ⟨xs, m, _, hx, hl, hn, hel⟩ := DataW.trod_struct Tryd.underlying33 hd0
  have c31 : Tryd.prog.cellsOf 31 = 1 := by kernel_rfl
  have h0 : DataW.trod (fun _ => ()) Tryd.prog W 0 (fun _ => true) false m 31 (List.take (Tryd.prog.cellsOf 31) (List.drop 0 cs0.toList)) = xs[0]? := hel 0 _ rfl
  rw [c31, List.drop_zero] at h0
  have hn1 : xs.length = 1 := hn
  have hx1 : Rows.laid_net_netip_z4 = DataW.agg (xs.map (·.1)) := (Prod.mk.inj hx).1
  have hcell := World.var?_cell hg0 hv0 0
  match xs, hn1, hx1, h0 with
  | [y], _, hx1, h0 =>
    rcases DataW.trod_pointer Tryd.underlying31 (show DataW.trod _ Tryd.prog W 0 _ false m 31 _ = some y from h0) with ⟨_, e2⟩ | ⟨z, _, _, _, _, e2, _⟩
    · rw [e2] at hx1
      cases hx1
    · exact ⟨z, hcell.trans (getElem?_of_chunk (off := 0) (c := 1) e2)⟩

end Go.Proofs.Qxb6616992aDoor
