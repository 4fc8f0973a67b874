/- The row of FnTableAddRefusesImpostor, and its tied card. After the guide's worked Mapy and Toyas texts. -/
import Derived.Test.Qxb6616992aDoorRows
import Derived.Test.Qxb6616992aDoorLaw
import Derived.Test.Qxb6616992aDoorOpn
import Derived.Test.Qxb6616992aDoorTie
import Derived.Test.Qxb6616992aDoorCards
import Derived.ProofKit
import Derived.LaidMore
import Derived.OpenShut
import Derived.Stop.Joined
import Derived.SevenTiedAt
import Derived.Lay
namespace Go.Proofs.Qxb6616992aDoor
open Go.ChangeShapes Go.WideShapes Go.ChangeAt Go.WideMaps Go.WideElems Go.RowKit
set_option linter.unusedVariables false

theorem own : ownKnob Tryd.prog.godebug = none := by kernel_rfl
theorem laidOut : laidOutB Tryd.prog = true := by kernel_rfl
theorem c5 : Tryd.prog.cellsOf 5 = 1 := by kernel_rfl
theorem c22 : Tryd.prog.cellsOf 22 = 20 := by kernel_rfl
theorem c23 : Tryd.prog.cellsOf 23 = 4 := by kernel_rfl

theorem listOf4 (xs : List Int) (h : xs.length = 4) : ∃ a b c d, xs = [a, b, c, d] := by
  match xs, h with
  | [a, b, c, d], _ => exact ⟨a, b, c, d, rfl⟩

set_option maxRecDepth 100000 in
theorem lifted (os : Os) (started : os.Started) (H : Type) (enc : TypeId × Value → H) :
    ReturnsInHanded {} Tryd.checked os 3 .any (fun w args => (Rows.fnTableAddRefusesImpostorSpec.pre enc Tryd.prog Tryd.f3 [] false w args ∧ laidMetH Tryd.prog laidL w) ∧ sizedMet enc Tryd.prog Tryd.f3 (OpenSpec.ofChange Rows.fnTableAddRefusesImpostorSpec) false w args)
      (Rows.fnTableAddRefusesImpostorSpec.post enc Tryd.prog Tryd.f3 false true false false) := by
  refine returnsInHanded_of_change_and (C := Tryd.checked) (X := fun w _ => laidMetH Tryd.prog laidL w) (fun _ _ _ hh h => h.of_heap hh) own started (by kernel_rfl) Tryd.func3
    (ChangeSpec.witness_shaped (enc := enc) (C := Tryd.checked) (os := os) (X := fun w _ => laidMetH Tryd.prog laidL w) false (World.laidAll Tryd.prog os laidL) #[.agg (C (List.replicate 20 0)).toArray, .int .i64 0, .agg (C (List.replicate 20 0)).toArray, .agg (C [0, 0, 0, 0]).toArray, .int .u16 0, .agg (C [0, 0, 0, 0]).toArray, .int .u16 0, .int .i64 0, .int .i64 0, .int .i64 0] 8 (World.laidAll_os _ _ _)
      (World.shaped_of_ZipB (by kernel_rfl) (by kernel_rfl)) (by kernel_rfl) (by kernel_rfl) (by kernel_rfl)
      (by rw [MakeChecks.laidMetH_plain _ _ _ (by kernel_rfl)]; exact laidMet_laidAll _ (by kernel_rfl) (by kernel_rfl))) ?_
  intro W base args ds gs before hval0 hW _ _ hL _
  have hval : ∀ (j : Nat) t v, Tryd.f3.params[j]? = some t → args[j]? = some v → Value.okWide Tryd.prog W .any base t v := hval0
  have hW' := hW
  obtain ⟨p, q, hA0, hV, rfl, hfz, hnd⟩ := hW
  have hA : DataW.TrodAll enc Tryd.prog W 0 (fun _ => true) true Tryd.f3.params.toList args.toList ds p := hA0
  rw [Tryd.params3] at hA hval
  obtain ⟨v0, vs0, e0, es0, p0, q0, hargs, rfl, rfl, h0, r0⟩ := trodAll_cons hA
  obtain ⟨v1, vs1, e1, es1, p1, q1, rfl, rfl, rfl, h1, r1⟩ := trodAll_cons r0
  obtain ⟨v2, vs2, e2, es2, p2, q2, rfl, rfl, rfl, h2, r2⟩ := trodAll_cons r1
  obtain ⟨v3, vs3, e3, es3, p3, q3, rfl, rfl, rfl, h3, r3⟩ := trodAll_cons r2
  obtain ⟨v4, vs4, e4, es4, p4, q4, rfl, rfl, rfl, h4, r4⟩ := trodAll_cons r3
  obtain ⟨v5, vs5, e5, es5, p5, q5, rfl, rfl, rfl, h5, r5⟩ := trodAll_cons r4
  obtain ⟨v6, vs6, e6, es6, p6, q6, rfl, rfl, rfl, h6, r6⟩ := trodAll_cons r5
  obtain ⟨v7, vs7, e7, es7, p7, q7, rfl, rfl, rfl, h7, r7⟩ := trodAll_cons r6
  obtain ⟨v8, vs8, e8, es8, p8, q8, rfl, rfl, rfl, h8, r8⟩ := trodAll_cons r7
  obtain ⟨v9, vs9, e9, es9, p9, q9, rfl, rfl, rfl, h9, r9⟩ := trodAll_cons r8
  obtain ⟨rfl, rfl, rfl⟩ := trodAll_nil r9
  obtain rfl : args = #[v0, v1, v2, v3, v4, v5, v6, v7, v8, v9] := by cases args; simp_all
  obtain ⟨rfl, rfl⟩ := trodVars_none hV
  obtain ⟨xs, lx, rfl, rfl, _⟩ := open_arr Tryd.underlying22 c22 c5 (hval 0 22 v0 rfl rfl) h0
  obtain ⟨k, rfl, rfl, rfl, w1⟩ := open_int Tryd.underlying3 (hval 1 3 v1 rfl rfl) h1
  obtain ⟨ys, ly, rfl, rfl, _⟩ := open_arr Tryd.underlying22 c22 c5 (hval 2 22 v2 rfl rfl) h2
  obtain ⟨i1, l1, rfl, rfl, b1⟩ := open_arr Tryd.underlying23 c23 c5 (hval 3 23 v3 rfl rfl) h3
  obtain ⟨n4, rfl, rfl, rfl, w4⟩ := open_int Tryd.underlying24 (hval 4 24 v4 rfl rfl) h4
  obtain ⟨i2, l2, rfl, rfl, b2⟩ := open_arr Tryd.underlying23 c23 c5 (hval 5 23 v5 rfl rfl) h5
  obtain ⟨n6, rfl, rfl, rfl, w6⟩ := open_int Tryd.underlying24 (hval 6 24 v6 rfl rfl) h6
  obtain ⟨d7, rfl, rfl, rfl, w7⟩ := open_int Tryd.underlying2 (hval 7 2 v7 rfl rfl) h7
  obtain ⟨d8, rfl, rfl, rfl, w8⟩ := open_int Tryd.underlying2 (hval 8 2 v8 rfl rfl) h8
  obtain ⟨d9, rfl, rfl, rfl, w9⟩ := open_int Tryd.underlying2 (hval 9 2 v9 rfl rfl) h9
  clear hA0 hval0
  simp only [List.append_nil] at hW'
  obtain ⟨a, b, c, d, rfl⟩ := listOf4 i1 l1
  obtain ⟨a', b', c', d', rfl⟩ := listOf4 i2 l2
  obtain ⟨z, hz⟩ := of_laid hL
  refine (law_any xs ys k a b c d n4 a' b' c' d' n6 d7 d8 d9 z W lx ly hz (bounds_u8 (b1 a (by simp))) (bounds_u8 (b1 b (by simp))) (bounds_u8 (b1 c (by simp))) (bounds_u8 (b1 d (by simp)))
    (bounds_u8 (b2 a' (by simp))) (bounds_u8 (b2 b' (by simp))) (bounds_u8 (b2 c' (by simp))) (bounds_u8 (b2 d' (by simp))) (bounds_i64 w7) (bounds_i64 w8) (bounds_i64 w9)).mono fun e W' ⟨he, bel⟩ => ?_
  subst he
  have B := bel.out
  exact ⟨_, rfl, _, _, _, [], _, [], hW', trodAll_mk1 (shut_bool Tryd.underlying4 _),
    (trodAll_cons_mk (B.trod laidOut (by kernel_rfl) (of_decide_eq_true (by kernel_rfl)) h0 (by simp)) (trodAll_cons_mk (shut_int Tryd.underlying3 w1) (trodAll_cons_mk (B.trod laidOut (by kernel_rfl) (of_decide_eq_true (by kernel_rfl)) h2 (by simp))
    (trodAll_cons_mk (B.trod laidOut (by kernel_rfl) (of_decide_eq_true (by kernel_rfl)) h3 (by simp)) (trodAll_cons_mk (shut_int Tryd.underlying24 w4) (trodAll_cons_mk (B.trod laidOut (by kernel_rfl) (of_decide_eq_true (by kernel_rfl)) h5 (by simp))
    (trodAll_cons_mk (shut_int Tryd.underlying24 w6) (trodAll_cons_mk (shut_int Tryd.underlying2 w7) (trodAll_cons_mk (shut_int Tryd.underlying2 w8) (trodAll_cons_mk (shut_int Tryd.underlying2 w9) trodAll_mk0)))))))))), rfl, B.frame _, fun h => by cases h⟩

theorem row_holds : Rows.FnTableAddRefusesImpostorSaid :=
  OpenClaim.holds_of_wide 3 Tryd.f3 rfl rfl rfl rfl rfl rfl rfl ⟨rfl, rfl, rfl, rfl, rfl⟩ rfl rfl rfl rfl rfl (by kernel_rfl) Tryd.func3 (by kernel_rfl)
    (of_decide_eq_true (by kernel_rfl)) (by unfold Func.isWrapper; first | (rw [if_pos (by decide +kernel)]; kernel_rfl) | (rw [if_neg (by decide +kernel)]; exact ⟨rfl, rfl⟩))
    (fun os started H enc _ => lifted os started H enc)

/-- ████ THE TIED CARD ████ -/
theorem card_proved : Rows.FnTableAddRefusesImpostorCardSaid :=
  Claim7.holds_tied_plain_at .later [] [.called] true Rows.fnTableAddRefusesImpostorCard.stood.harness false
    row_holds (fun _ h => by cases h) (by kernel_rfl) (fun _ h => by cases h) fnTableAddRefusesImpostor_row_tie rfl ⟨rfl, rfl⟩ (by kernel_rfl) rfl
    (fun f fn hf hfn => by
      obtain rfl : f = 3 := Option.some.inj ((show Tryd.prog.funcNamed Rows.fnTableAddRefusesImpostorRow.func = some 3 by kernel_rfl).symm.trans hf) |>.symm
      obtain rfl : fn = Tryd.f3 := (Option.some.inj (Tryd.func3.symm.trans hfn)).symm
      exact ⟨by kernel_rfl, fun j t ht => by
        rw [Tryd.params3] at ht
        have hm : t ∈ [22, 3, 22, 23, 24, 23, 24, 2, 2, 2] := by simpa using Array.mem_of_getElem? ht
        have hall : ([22, 3, 22, 23, 24, 23, 24, 2, 2, 2].all fun u => !Tryd.prog.wantsStandIn u) = true := by kernel_rfl
        exact (show Tryd.prog.wantsStandIn t = false by simpa using List.all_eq_true.1 hall t hm)⟩)
    (by kernel_rfl)
end Go.Proofs.Qxb6616992aDoor
