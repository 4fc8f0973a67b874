import Derived.Test.Qxb6616992aDoorBits
import Derived.WalkSpells
import Derived.WalkLawsBesides
import Derived.Deep.QuietTactic
import Derived.BigQuiet
import Derived.Deep.RegionWith
namespace Go.Proofs.Qxb6616992aDoor
open Go.RowKit

theorem and_self (n : Int) (h0 : 0 ≤ n) (h1 : n < 1073741824) : bits .and .u64 n n = n := by
  obtain ⟨a, rfl⟩ := Int.eq_ofNat_of_zero_le h0
  have : (2 : Nat) ^ 64 = 18446744073709551616 := by decide
  rw [(bits_nat .u64 64 (by decide) wraps_u64 a a (by rw [this]; omega) (by rw [this]; omega)).1, Nat.and_self]

theorem and_zero (n : Int) (h0 : 0 ≤ n) (h1 : n < 1073741824) : bits .and .u64 n 0 = 0 := by
  obtain ⟨a, rfl⟩ := Int.eq_ofNat_of_zero_le h0
  have : (2 : Nat) ^ 64 = 18446744073709551616 := by decide
  have h := (bits_nat .u64 64 (by decide) wraps_u64 a 0 (by rw [this]; omega) (by rw [this]; omega)).1
  rw [Nat.and_zero] at h
  exact h

theorem ret_i32 {a b : Int} (h : a = b) : Ending.returned (.int .i32 a) = .returned (.int .i32 b) := by rw [h]

set_option maxHeartbeats 400000 in
theorem nsec_any (b : Nat) (o : Nat) (n : Int) (w : World) (h0 : 0 ≤ n) (h1 : n < 1000000000) (hc : w.cell? ⟨b, o, none⟩ = some (.int .u64 n)) :
    Calls Tryd.prog 23 #[.pointer (some ⟨b, o, none⟩)] w fun e w' => e = .returned (.int .i32 n) ∧ w' = w := by
  go_enter Tryd.func23, Tryd.ntmps23
  go_wp2
  go_ret
  exact ⟨ret_i32 (by rw [and_mask n h0 (by omega)]; unfold wrap32; omega), rfl⟩

set_option maxHeartbeats 400000 in
theorem sec_any (b : Nat) (o : Nat) (n s : Int) (w : World) (h0 : 0 ≤ n) (h1 : n < 1000000000) (hc : w.cell? ⟨b, o, none⟩ = some (.int .u64 n)) (hs : w.cell? ⟨b, o + 1, none⟩ = some (.int .i64 s)) :
    Calls Tryd.prog 27 #[.pointer (some ⟨b, o, none⟩)] w fun e w' => e = .returned (.int .i64 s) ∧ w' = w := by
  have hm := mono_false n h0 (by omega)
  go_enter Tryd.func27, Tryd.ntmps27
  go_wp2
  go_ret
  exact ⟨rfl, rfl⟩

set_option maxHeartbeats 1000000 in
/-- addSec at a time of no seconds, no monotonic reading -/
theorem addSec_any (b : Nat) (n d : Int) (w : World) (h0 : 0 ≤ n) (h1 : n < 1000000000) (hd0 : -9223372036854775808 ≤ d) (hd1 : d ≤ 9223372036854775807) (hc : w.cell? ⟨b, 0, none⟩ = some (.int .u64 n)) (hs : w.cell? ⟨b, 1, none⟩ = some (.int .i64 0)) (hf : w.frozen? ⟨b, 1, none⟩ = false) :
    Calls Tryd.prog 24 #[.pointer (some ⟨b, 0, none⟩), .int .i64 d] w fun e w' => e = .returned (.tuple #[]) ∧ w' = w.setCell ⟨b, 1, none⟩ (.int .i64 d) := by
  have hm := mono_false n h0 (by omega)
  go_enter Tryd.func24, Tryd.ntmps24
  go_wp2
  go_end0
  exact ⟨rfl, rfl⟩

/-- 'd / 1e9', 'd % 1e9' as Go reckons them, and the floor -/
theorem div_parts (d : Int) (hd0 : -9223372036854775808 ≤ d) (hd1 : d ≤ 9223372036854775807) : ∃ Q R : Int, d.tdiv 1000000000 = Q ∧ d.tmod 1000000000 = R ∧ -1000000000 < R ∧ R < 1000000000 ∧ -10000000000 ≤ Q ∧ Q ≤ 10000000000 ∧
    (0 ≤ R → d % 1000000000 = R ∧ d / 1000000000 = Q) ∧ (R < 0 → d % 1000000000 = R + 1000000000 ∧ d / 1000000000 = Q - 1) := by
  refine ⟨_, _, rfl, rfl, ?_⟩
  by_cases hd : 0 ≤ d
  · rw [Int.tdiv_eq_ediv_of_nonneg hd, Int.tmod_eq_emod_of_nonneg hd]
    omega
  · obtain ⟨m, rfl⟩ : ∃ m, d = -m := ⟨-d, by omega⟩
    rw [Int.neg_tdiv, Int.neg_tmod, Int.tdiv_eq_ediv_of_nonneg (by omega), Int.tmod_eq_emod_of_nonneg (by omega)]
    omega

theorem andNot_zero : bits .andNot .u64 0 1073741823 = 0 := by decide

theorem wrap32_small (R : Int) (h0 : -1000000000 < R) (h1 : R < 1000000000) : wrap32 R = R := by unfold wrap32; omega

set_option maxHeartbeats 1000000 in
theorem add_any (d : Int) (w : World) (hd0 : -9223372036854775808 ≤ d) (hd1 : d ≤ 9223372036854775807) :
    Calls Tryd.prog 15 #[.agg #[.int .u64 0, .int .i64 0, .pointer none], .int .i64 d] w fun e w' => e = .returned (.agg #[.int .u64 (d % 1000000000), .int .i64 (d / 1000000000), .pointer none]) ∧ Below w.heap.size w w' := by
  obtain ⟨Q, R, hq, hr, r0, r1, q0, q1, hpos, hneg⟩ := div_parts d hd0 hd1
  have hw32 := wrap32_small R r0 r1
  have HP : Hid (0 ≤ R → d % 1000000000 = R ∧ d / 1000000000 = Q) := hpos
  have HN : Hid (R < 0 → d % 1000000000 = R + 1000000000 ∧ d / 1000000000 = Q - 1) := hneg
  clear hpos hneg
  go_enter Tryd.func15, Tryd.ntmps15
  go_wp2_with fail
  refine (nsec_any _ 0 0 _ (by decide) (by decide) (by simp)).mono ?_
  rintro e w1 ⟨rfl, hw⟩
  subst hw
  by_cases hd : 0 ≤ R
  · obtain ⟨e1, e2⟩ := HP.out hd
    have E1 : Hid (d % 1000000000 = R) := e1
    have E2 : Hid (d / 1000000000 = Q) := e2
    clear e1 e2 HP HN
    have ho : bits .or .u64 (bits .andNot .u64 0 1073741823) R = R := (congrArg (fun x => bits .or .u64 x R) andNot_zero).trans (or_zero R hd (by omega))
    have hm := mono_false R hd (by omega)
    go_wp2_with fail
    refine (addSec_any _ R Q _ hd r1 (by omega) (by omega) (by simp) (by simp) (by simp)).mono ?_
    rintro e w1 ⟨rfl, hw⟩
    subst hw
    go_wp2
    exact bodyPost_ret (v := .agg #[.int .u64 R, .int .i64 Q, .pointer none]) (by simp [results, Tryd.results15, go_sem]) rfl ⟨by rw [E1.out, E2.out], ((Below.refl _ _).alloc (Nat.le_refl _) _).alloc (by simp) _⟩
  · obtain ⟨e1, e2⟩ := HN.out (by omega)
    have E1 : Hid (d % 1000000000 = R + 1000000000) := e1
    have E2 : Hid (d / 1000000000 = Q - 1) := e2
    clear e1 e2 HP HN
    have ho : bits .or .u64 (bits .andNot .u64 0 1073741823) (R + 1000000000) = R + 1000000000 := (congrArg (fun x => bits .or .u64 x (R + 1000000000)) andNot_zero).trans (or_zero (R + 1000000000) (by omega) (by omega))
    have hm := mono_false (R + 1000000000) (by omega) (by omega)
    go_wp2_with fail
    refine (addSec_any _ (R + 1000000000) (Q - 1) _ (by omega) (by omega) (by omega) (by omega) (by simp) (by simp) (by simp)).mono ?_
    rintro e w1 ⟨rfl, hw⟩
    subst hw
    go_wp2
    exact bodyPost_ret (v := .agg #[.int .u64 (R + 1000000000), .int .i64 (Q - 1), .pointer none]) (by simp [results, Tryd.results15, go_sem]) rfl ⟨by rw [E1.out, E2.out], ((Below.refl _ _).alloc (Nat.le_refl _) _).alloc (by simp) _⟩

set_option maxHeartbeats 400000 in
theorem equal_same (n s : Int) (w : World) (h0 : 0 ≤ n) (h1 : n < 1000000000) :
    Calls Tryd.prog 28 #[.agg #[.int .u64 n, .int .i64 s, .pointer none], .agg #[.int .u64 n, .int .i64 s, .pointer none]] w fun e w' => e = .returned (.bool true) ∧ Below w.heap.size w w' := by
  have hm := mono_false n h0 (by omega)
  have hk : bits .and .u64 n n = n := and_self n h0 (by omega)
  go_enter Tryd.func28, Tryd.ntmps28
  go_wp2_with (first
    | (go_at_call 27; refine (sec_any _ 0 n s _ h0 h1 (by simp) (by simp)).mono ?_; rintro e w1 ⟨rfl, rfl⟩)
    | (go_at_call 23; refine (nsec_any _ 0 n _ h0 h1 (by simp)).mono ?_; rintro e w1 ⟨rfl, rfl⟩))
  go_ret
  exact ⟨rfl, ((Below.refl _ _).alloc (Nat.le_refl _) _).alloc (by simp) _⟩

theorem bcell {W w1 : World} (hb : Below W.heap.size W w1) : (∀ b o, b < W.heap.size → w1.cell? ⟨b, o, none⟩ = W.cell? ⟨b, o, none⟩) ∧ (∀ b o, b < W.heap.size → w1.frozen? ⟨b, o, none⟩ = W.frozen? ⟨b, o, none⟩) :=
  ⟨fun b o h => hb.cell (p := ⟨b, o, none⟩) h, fun b o h => hb.frozen (p := ⟨b, o, none⟩) h⟩

theorem below2 {w w1 w2 : World} {o1 o2 : Obj} (h1 : Below ((w.alloc o1).alloc o2).drew.heap.size ((w.alloc o1).alloc o2).drew w1) (h2 : Below w1.heap.size w1 w2) : Below w.heap.size w w2 := by
  have e : ((w.alloc o1).alloc o2).drew.heap.size = w.heap.size + 2 := by simp
  have b0 : Below w.heap.size w ((w.alloc o1).alloc o2).drew := (((Below.refl _ _).alloc (Nat.le_refl _) _).alloc (by simp) _).drew
  have s1 := h1.size
  exact (b0.trans (h1.mono (by omega))).trans (h2.mono (by omega))

set_option maxHeartbeats 1000000 in
theorem sub_zero (d : Int) (w : World) (hd0 : -9223372036854775808 ≤ d) (hd1 : d ≤ 9223372036854775807) :
    Calls Tryd.prog 17 #[.agg #[.int .u64 (d % 1000000000), .int .i64 (d / 1000000000), .pointer none], .agg #[.int .u64 0, .int .i64 0, .pointer none]] w fun e w' => e = .returned (.int .i64 d) ∧ Below w.heap.size w w' := by
  obtain ⟨n, hn⟩ : ∃ n, d % 1000000000 = n := ⟨_, rfl⟩
  obtain ⟨s, hs⟩ : ∃ s, d / 1000000000 = s := ⟨_, rfl⟩
  have h0 : 0 ≤ n := by omega
  have h1 : n < 1000000000 := by omega
  have HN : Hid (d % 1000000000 = n) := hn
  have HS : Hid (d / 1000000000 = s) := hs
  rw [hn, hs]
  have hz : bits .and .u64 n 0 = 0 := and_zero n h0 (by omega)
  have hm0 := mono_false 0 (by decide) (by decide)
  have HW : Hid (wrap64 (wrap64 (s * 1000000000) + n) = d) := (show _ = _ by unfold wrap64; omega)
  have HA : Hid (∀ w : World, Calls Tryd.prog 15 #[.agg #[.int .u64 0, .int .i64 0, .pointer none], .int .i64 d] w fun e w' => e = .returned (.agg #[.int .u64 n, .int .i64 s, .pointer none]) ∧ Below w.heap.size w w') :=
    (show ∀ w : World, _ from fun w => by have := add_any d w hd0 hd1; rw [hn, hs] at this; exact this)
  have s0 : -9223372037 ≤ s := by omega
  have s1 : s ≤ 9223372036 := by omega
  clear hn hs
  go_enter Tryd.func17, Tryd.ntmps17
  go_wp2_with fail
  refine (sec_any _ 0 n s _ h0 h1 (by simp) (by simp)).mono ?_
  rintro e w1 ⟨rfl, hw⟩
  subst hw
  go_wp2_with fail
  refine (sec_any _ 0 0 0 _ (by decide) (by decide) (by simp) (by simp)).mono ?_
  rintro e w1 ⟨rfl, hw⟩
  subst hw
  go_wp2_with fail
  refine (nsec_any _ 0 n _ h0 h1 (by simp)).mono ?_
  rintro e w1 ⟨rfl, hw⟩
  subst hw
  go_wp2_with fail
  refine (nsec_any _ 0 0 _ (by decide) (by decide) (by simp)).mono ?_
  rintro e w1 ⟨rfl, hw⟩
  subst hw
  go_wp2_with fail
  rw [HW.out]
  go_region_with (first
    | (go_at_call 15; refine (HA.out _).mono ?_; rintro e w1 ⟨rfl, hb⟩; obtain ⟨hc, hf⟩ := bcell hb)
    | (go_at_call 28; refine (equal_same n s _ h0 h1).mono ?_; rintro e w2 ⟨rfl, hb2⟩))
  all_goals go_wp2
  all_goals go_ret
  all_goals exact ⟨rfl, below2 hb hb2⟩

set_option maxHeartbeats 400000 in
theorem at_any (d : Int) (w : World) (hd0 : -9223372036854775808 ≤ d) (hd1 : d ≤ 9223372036854775807) :
    Calls Tryd.prog 8 #[.int .i64 d] w fun e w' => e = .returned (.agg #[.int .u64 (d % 1000000000), .int .i64 (d / 1000000000), .pointer none]) ∧ Below w.heap.size w w' := by
  go_enter Tryd.func8, Tryd.ntmps8
  go_wp2_with fail
  refine (add_any d _ hd0 hd1).mono ?_
  rintro e w1 ⟨rfl, hb⟩
  obtain ⟨hc, hf⟩ := bcell hb
  have hz := hb.size
  simp at hz
  go_wp2
  exact bodyPost_ret (v := .agg #[.int .u64 (d % 1000000000), .int .i64 (d / 1000000000), .pointer none]) (by simp [results, Tryd.results8, go_sem, hc]) rfl
    ⟨rfl, (((((Below.refl _ _).alloc (Nat.le_refl _) _).trans (hb.mono (by simp))).setCell (Nat.le_refl _) _).setCell (Nat.le_refl _) _).setCell (Nat.le_refl _) _⟩

set_option maxHeartbeats 400000 in
theorem heard_any (g o : Nat) (d : Int) (w : World) (hd0 : -9223372036854775808 ≤ d) (hd1 : d ≤ 9223372036854775807)
    (c0 : w.cell? ⟨g, o + 24, none⟩ = some (.int .u64 (d % 1000000000))) (c1 : w.cell? ⟨g, o + 24 + 1, none⟩ = some (.int .i64 (d / 1000000000))) (c2 : w.cell? ⟨g, o + 24 + 2, none⟩ = some (.pointer none)) :
    Calls Tryd.prog 10 #[.pointer (some ⟨g, o, none⟩)] w fun e w' => e = .returned (.int .i64 d) ∧ Below w.heap.size w w' := by
  go_enter Tryd.func10, Tryd.ntmps10
  go_wp2_with fail
  refine (sub_zero d _ hd0 hd1).mono ?_
  rintro e w1 ⟨rfl, hb⟩
  go_wp2
  go_ret
  exact ⟨rfl, hb⟩

set_option maxHeartbeats 400000 in
theorem fails_any (g o : Nat) (f : Int) (w : World) (c0 : w.cell? ⟨g, o + 27, none⟩ = some (.int .i64 f)) :
    Calls Tryd.prog 11 #[.pointer (some ⟨g, o, none⟩)] w fun e w' => e = .returned (.int .i64 f) ∧ w' = w := by
  go_enter Tryd.func11, Tryd.ntmps11
  go_wp2
  go_ret
  exact ⟨rfl, rfl⟩

end Go.Proofs.Qxb6616992aDoor
