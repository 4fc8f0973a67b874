/- How an argument of type []string is opened, for both laws on mergeSorted. -/
import Derived.Test.Qxb6617857aRows
import Derived.WalkKit
import Derived.ProofKit
import Derived.OpenShut
import Derived.ShutString
import Derived.ChangeOld
import Derived.Below
import Derived.SliceStrings
import Derived.Test.Qxb6617857aCpy
namespace Go.Proofs.Qxb6617857a
open Go.ChangeShapes Go.WideShapes Go.ChangeAt Go.RowKit

theorem own : ownKnob Try.prog.godebug = none := by kernel_rfl
theorem laidOut : laidOutB Try.prog = true := by kernel_rfl

theorem open_av {H : Type} {enc : TypeId × Value → H} {W : World} {a : Option Addr} {len cap : Nat} {d : DataW H} {p : List MemPlace}
    (h : DataW.Trod enc Try.prog W 0 (fun _ => true) true 22 (.slice a len cap) d p) : ∃ l, AV W W a len cap l := by
  obtain ⟨fuel, hf⟩ := h
  rcases open_strings Try.underlying22 Try.underlying9 (by kernel_rfl) hf with ⟨hcs, _⟩ | ⟨x, l, c, ss, hcs, _, hl, hm, hz, _, hcell, _⟩
  · simp [Value.cells] at hcs
    obtain ⟨rfl, rfl, rfl⟩ := hcs
    exact ⟨[], rfl, Nat.le_refl _, fun _ => ⟨rfl, rfl⟩, SV.nothing rfl, Below.refl _ _⟩
  · simp [Value.cells] at hcs
    obtain ⟨rfl, rfl, rfl⟩ := hcs
    have hz' : ss.length = cap := by simpa using hz
    refine ⟨ss.take len, by simp; omega, hl, (fun h => by cases h), fun j hj => ?_, Below.refl _ _⟩
    have hjl : j < len := by simp at hj; omega
    obtain ⟨b, off, spot⟩ := x
    have hc := hcell j (by omega)
    have hc0 := hcell 0 (by omega)
    have hspot : spot = none := by simpa [Addr.add] using World.cell?_spot hc0
    subst hspot
    refine ⟨b, off, rfl, ?_⟩
    rw [Addr.add_lit] at hc
    rw [hc]
    simp [nth, hjl]

end Go.Proofs.Qxb6617857a
