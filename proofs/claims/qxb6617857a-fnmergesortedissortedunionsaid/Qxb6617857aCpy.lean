import Derived.Test.Qxb6617857aMlaw
import Derived.Laws.CopyOwn
import Derived.Deep.DeepCutAuto
namespace Go.Proofs.Qxb6617857a
open Go.RowKit

theorem Try.size9 : (Try.prog.info? 9).map (·.size) = some 1 := by kernel_rfl

theorem SV.below {w w' : World} {ao : Option Addr} {l : List ByteArray} (h : SV w ao l) (hb : Below w.heap.size w w') : SV w' ao l := by
  intro j hj
  obtain ⟨b, o, e, hc⟩ := h j hj
  exact ⟨b, o, e, (hb.cell (World.block_lt_of_cell? w _ hc)).trans hc⟩

theorem SV.grown {w w' : World} {g : Nat} {ao : Option Addr} {l : List ByteArray} (h : SV w ao l) (hb : w.grownBy w' (some g)) (hne : ∀ b o, ao = some ⟨b, o, none⟩ → b ≠ g) : SV w' ao l := by
  intro j hj
  obtain ⟨b, o, e, hc⟩ := h j hj
  exact ⟨b, o, e, hb.cell hc (by have := hne b o e; simpa using this)⟩

/-- What an owned row holds, as a slice of strings. -/
theorem SV_of_own {w : World} {base g k cap : Nat} {R : List ByteArray} (h : w.ownsRow base 9 1 (.slice (some ⟨g, 0, none⟩) k cap) k (R.map Value.string)) : R.length = k ∧ SV w (some ⟨g, 0, none⟩) R := by
  refine ⟨by simpa using h.1, fun j hj => ⟨g, 0, rfl, ?_⟩⟩
  have := h.cells (g := g) rfl j (.string (nth R j)) (by simp [nth, hj])
  rw [Addr.add_lit] at this
  exact this

/-- 'copy(zzc, a)', zzc just made as long as a. -/
theorem copy_run {w : World} (ty : TypeId) (base g n c : Nat) (sp : Option Addr) (xs : List Value) (hown : w.ownsRow base 9 1 (.slice (some ⟨g, 0, none⟩) n n) n xs) (l : List ByteArray) (hl : l.length = n) (hsrc : SV w sp l) :
    ∃ (w' : World) (k : Int), (Builtin.copy_ #[22, 22] ty #[.slice (some ⟨g, 0, none⟩) n n, .slice sp n c]).run Try.prog w = .ok (.int .i64 k) w' ∧ SV w' (some ⟨g, 0, none⟩) l ∧ w.grownBy w' (some g) := by
  by_cases h0 : n = 0
  · subst h0
    exact ⟨w, _, run_copy_none (P := Try.prog) w 22 22 ty 9 _ _ _ _ _ _ Try.underlying22 Try.size9 (by simp), SV.nothing hl, World.grownBy.refl _ _⟩
  · obtain ⟨b, off, rfl, _⟩ := hsrc 0 (by omega)
    rcases hown.2 with ⟨_, e⟩ | ⟨g', cap', cur, hv, hbg, hg, hnc, hcm, hcs, htake⟩
    · exact absurd e h0
    · cases hv
      refine ⟨_, _, run_copy_row (P := Try.prog) w 22 22 ty 9 g 0 n n ⟨b, off, none⟩ n c cur 9 (l.map Value.string) Try.underlying22 Try.size9 hg (by simp [hl]) (hsrc.cells (Below.refl _ _) _ rfl) (by simp [hl, hcs]) (strs_oneCell _), ?_, ⟨rfl, rfl, rfl, by simp, fun k _ hk => setRow_other w g k _ (fun e => hk (by simp [e]))⟩⟩
      intro j hj
      refine ⟨g, 0, rfl, ?_⟩
      simp only [World.cell?]
      rw [setRow_heap w g cur _ 9 (0, 0) hg]
      simp [nth, hj, List.getElem?_append]

/-- A slice of strings, as the law holds it. -/
structure AV (w wr : World) (ao : Option Addr) (n c : Nat) (A : List ByteArray) : Prop where
  len : A.length = n
  le : n ≤ c
  za : ao = none → n = 0 ∧ c = 0
  sv : SV wr ao A
  bel : Below w.heap.size w wr

theorem AV.next {w wr w1 : World} {ao : Option Addr} {n c : Nat} {A : List ByteArray} (h : AV w wr ao n c A) (hb : Below wr.heap.size wr w1) : AV w w1 ao n c A :=
  ⟨h.len, h.le, h.za, h.sv.below hb, h.bel.trans (hb.mono h.bel.size)⟩

theorem AV.drew {w wr : World} {ao : Option Addr} {n c : Nat} {A : List ByteArray} (h : AV w wr ao n c A) (q : Nat) : AV w (wr.drewN q) ao n c A :=
  h.next (below_drewN (Below.refl _ _) q)

theorem copied_below {wr w1 w2 : World} (h1 : wr.grownBy w1 none) (h2 : w1.grownBy w2 (some wr.heap.size)) : Below wr.heap.size wr w2 :=
  ((Below.refl _ _).grown h1 (Nat.le_refl _) (fun k h => by cases h)).grown h2 h1.size (fun k hk => by cases hk; exact Nat.le_refl _)

theorem AV.copied {w wr w1 w2 : World} {ao : Option Addr} {n c : Nat} {A : List ByteArray} (h : AV w wr ao n c A) (h1 : wr.grownBy w1 none) (h2 : w1.grownBy w2 (some wr.heap.size)) (hsv : SV w2 (some ⟨wr.heap.size, 0, none⟩) A) : AV w w2 (some ⟨wr.heap.size, 0, none⟩) n n A :=
  ⟨h.len, Nat.le_refl _, (fun h => by cases h), hsv, h.bel.trans ((copied_below h1 h2).mono h.bel.size)⟩

theorem AV.made {w wr w1 : World} {ao : Option Addr} {n c : Nat} {A : List ByteArray} (h : AV w wr ao n c A) (h1 : wr.grownBy w1 none) : SV w1 ao A :=
  h.sv.below ((Below.refl _ _).grown h1 (Nat.le_refl _) (fun k h => by cases h))

theorem Dr.below {w w' : World} (h : Dr w w') : Below w.heap.size w w' := by
  obtain ⟨q, rfl⟩ := h
  exact below_drewN (Below.refl _ _) q

set_option maxHeartbeats 400000 in
theorem zzMerge_any (ao bo : Option Addr) (n m c d : Nat) (A B : List ByteArray) (w0 w : World) (ha : AV w0 w ao n c A) (hb : AV w0 w bo m d B) (hl : n ≤ 65536) (hl2 : m ≤ 65536) :
    Calls Try.prog 10 #[.slice ao n c, .slice bo m d] w fun e w' => ∃ g k cap, k ≤ n + m ∧ e = .returned (.slice (some ⟨g, 0, none⟩) k cap) ∧ AV w0 w' (some ⟨g, 0, none⟩) k cap (mrg (n + m) A B) ∧ Below w.heap.size w w' := by
  go_enter Try.func10, Try.ntmps10
  go_wp2_with fail
  refine (merge_any ao bo n m c d A B w ha.len hb.len hl hl2 ha.le hb.le ha.za hb.za ha.sv hb.sv).mono ?_
  rintro e w1 ⟨k, hk, rfl, hown, hbl⟩
  go_wp2
  go_ret
  obtain ⟨h1, h2⟩ := SV_of_own hown
  exact ⟨_, k, _, hk, rfl, ⟨h1, hk, (fun h => by cases h), h2, ha.bel.trans (hbl.mono ha.bel.size)⟩, hbl⟩

end Go.Proofs.Qxb6617857a
