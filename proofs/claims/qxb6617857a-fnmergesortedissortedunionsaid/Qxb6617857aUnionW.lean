import Derived.Test.Qxb6617857aCpy
namespace Go.Proofs.Qxb6617857a
open Go.RowKit

set_option maxRecDepth 100000 in
set_option maxHeartbeats 2000000 in
theorem union_any (ao bo : Option Addr) (n m c d : Nat) (A B : List ByteArray) (w : World) (ha : AV w w ao n c A) (hb : AV w w bo m d B) :
    Calls Try.prog 3 #[.slice ao n c, .slice bo m d] w fun e w' => e = .returned (.bool true) ∧ Below w.heap.size w w' := by
  obtain ⟨i0, hi, hz0, hz1, hz2⟩ := info_parts Try.info9
  have hnn := fun (w : World) (a : Option Addr) (n c : Nat) => run_neq_slice_nil_any (P := Try.prog) w 22 9 a n c 0 0 Try.underlying22
  go_enter Try.func3, Try.ntmps3
  go_wp2_with fail
  refine (zzBytes3_any ao bo n m c d A B _ ha.len hb.len ha.sv hb.sv).mono ?_
  rintro e w1 ⟨⟨x, rfl⟩, hw⟩
  obtain rfl : w = w1 := hw.symm
  clear hw
  cases x
  · go_wp2
    go_ret
    exact ⟨rfl, Below.refl _ _⟩
  by_cases hl : 65536 < n
  · go_wp2
    go_ret
    exact ⟨rfl, Below.refl _ _⟩
  by_cases hl2 : 65536 < m
  · go_wp2
    go_ret
    exact ⟨rfl, Below.refl _ _⟩
  go_upto_if 23 with (fail)
  go_cut [0] (fun s0 wr => ∃ ao' c', s0 = .slice ao' n c' ∧ AV w wr ao' n c' A ∧ AV w wr bo m d B)
  case first =>
    cases ao with
    | none =>
      go_wp2
      go_meet
      case rel => exact ⟨_, _, rfl, ha, hb⟩
    | some ad =>
      go_wp2_with (at_make; refine wpList_make_full _ rfl _ _ 22 rfl w.heap.size 9 i0 (.string ⟨#[]⟩) 1 Try.underlying22 hi hz0 hz1 _ _ _ _ n rfl rfl rfl rfl (by rw [hz2]; omega) (by unfold maxLen; omega) (Nat.le_refl _) ?_; intro w1 hown1 hgrow1; obtain ⟨w2, k2, hrun, hsv, hgrow2⟩ := copy_run 3 w.heap.size w.heap.size n c (some ad) _ hown1 A ha.len (ha.made hgrow1))
      go_meet
      case rel => exact ⟨_, _, rfl, ha.copied hgrow1 hgrow2 hsv, hb.next (copied_below hgrow1 hgrow2)⟩
  case rest =>
  clear ha hb
  obtain ⟨ao', c', rfl, ha, hb⟩ := hcut
  go_upto_if 32 with (fail)
  go_cut [1] (fun s1 wr => ∃ bo' d', s1 = .slice bo' m d' ∧ AV w wr ao' n c' A ∧ AV w wr bo' m d' B)
  case first =>
    cases bo with
    | none =>
      go_wp2
      go_meet
      case rel => exact ⟨_, _, rfl, ha, hb⟩
    | some ad =>
      go_wp2_with (at_make; refine wpList_make_full _ rfl _ _ 22 rfl wc.heap.size 9 i0 (.string ⟨#[]⟩) 1 Try.underlying22 hi hz0 hz1 _ _ _ _ m rfl rfl rfl rfl (by rw [hz2]; omega) (by unfold maxLen; omega) (Nat.le_refl _) ?_; intro w1 hown1 hgrow1; obtain ⟨w2, k2, hrun, hsv, hgrow2⟩ := copy_run 3 wc.heap.size wc.heap.size m d (some ad) _ hown1 B hb.len (hb.made hgrow1))
      go_meet
      case rel => exact ⟨_, _, rfl, ha.next (copied_below hgrow1 hgrow2), hb.copied hgrow1 hgrow2 hsv⟩
  case rest =>
  clear ha hb
  obtain ⟨bo', d', rfl, ha, hb⟩ := hcut
  clear hnn hi hz0 hz1 hz2
  go_wp2_with fail
  refine (stringBytes_any ao' n c' A 0 _ ha.len (by omega) ha.sv).mono ?_
  rintro e w2 ⟨⟨t, rfl⟩, hw⟩
  obtain rfl : wc = w2 := hw.symm
  clear hw
  by_cases ht : 1048576 < t
  · go_wp2
    go_ret
    exact ⟨rfl, ha.bel⟩
  go_wp2_with fail
  refine (stringBytes_any bo' m d' B t _ hb.len (by omega) hb.sv).mono ?_
  rintro e w2 ⟨⟨t2, rfl⟩, hw⟩
  obtain rfl : wc = w2 := hw.symm
  clear hw
  by_cases ht2 : 1048576 < t2
  · go_wp2
    go_ret
    exact ⟨rfl, ha.bel⟩
  go_wp2_with fail
  refine (strictly_any ao' n c' A _ ha.len (by omega) ha.sv).mono ?_
  rintro e w2 ⟨⟨x, rfl, hx⟩, hdr⟩
  replace ha := ha.next hdr.below
  replace hb := hb.next hdr.below
  clear hdr
  cases x
  · clear hx
    go_wp2
    go_ret
    exact ⟨rfl, ha.bel⟩
  have sa := S_of_Inc (hx.1 rfl)
  clear hx
  go_wp2_with fail
  refine (strictly_any bo' m d' B _ hb.len (by omega) hb.sv).mono ?_
  rintro e w3 ⟨⟨x, rfl, hx⟩, hdr⟩
  replace ha := ha.next hdr.below
  replace hb := hb.next hdr.below
  clear hdr
  cases x
  · clear hx
    go_wp2
    go_ret
    exact ⟨rfl, ha.bel⟩
  have sb := S_of_Inc (hx.1 rfl)
  clear hx
  go_wp2_with fail
  refine (zzMerge_any ao' bo' n m c' d' A B w _ ha hb (by omega) (by omega)).mono ?_
  rintro e w4 ⟨g1, k1, cap1, hk1, rfl, hr1, hbl⟩
  replace ha := ha.next hbl
  replace hb := hb.next hbl
  clear hbl
  have sr := mrg_S (n + m) A B (by rw [ha.len, hb.len]; exact Nat.le_refl _) sa sb
  have hra : Hid (A.Sublist (mrg (n + m) A B)) := S_sublist _ _ sr sa fun x hx => (mrg_mem x _ _ _).2 (Or.inl hx)
  have hrb : Hid (B.Sublist (mrg (n + m) A B)) := S_sublist _ _ sr sb fun x hx => (mrg_mem x _ _ _).2 (Or.inr hx)
  have hrm : Hid (∀ x, x ∈ mrg (n + m) A B → x ∈ A ∨ x ∈ B) := fun x => (mrg_mem x _ _ _).1
  generalize mrg (n + m) A B = R at hr1 sr hra hrb hrm
  go_wp2_with fail
  refine (strictly_any _ k1 cap1 R _ hr1.len (by omega) hr1.sv).mono ?_
  rintro e w5 ⟨⟨x, rfl, hx⟩, hdr⟩
  replace ha := ha.next hdr.below
  replace hb := hb.next hdr.below
  replace hr1 := hr1.next hdr.below
  clear hdr
  obtain rfl : x = true := hx.2 (Inc_of_S sr)
  clear hx
  go_wp2_with fail
  refine (isSub_any ao' _ n k1 c' cap1 A R _ ha.len hr1.len (by omega) (by omega) ha.sv hr1.sv).mono ?_
  rintro e w6 ⟨⟨x, rfl, hx⟩, hdr⟩
  replace ha := ha.next hdr.below
  replace hb := hb.next hdr.below
  replace hr1 := hr1.next hdr.below
  clear hdr
  obtain rfl : x = true := hx hra.out
  clear hx
  go_wp2_with fail
  refine (isSub_any bo' _ m k1 d' cap1 B R _ hb.len hr1.len (by omega) (by omega) hb.sv hr1.sv).mono ?_
  rintro e w7 ⟨⟨x, rfl, hx⟩, hdr⟩
  replace ha := ha.next hdr.below
  replace hb := hb.next hdr.below
  replace hr1 := hr1.next hdr.below
  clear hdr
  obtain rfl : x = true := hx hrb.out
  clear hx hra hrb
  have hA := Inc_of_S sa
  have hBi := Inc_of_S sb
  clear sa sb sr
  go_wp2
  go_loop [9] (fun i => ∃ k : Nat, k ≤ k1 ∧ i = .int .i64 k) (fun i => k1 - (intOf i).toNat)
  case atStart => exact ⟨0, Nat.zero_le _, rfl⟩
  case round =>
    obtain ⟨j, hj, rfl⟩ := hrel
    by_cases hjn : j < k1
    · obtain ⟨b1, o1, e1, c1⟩ := hr1.sv j (by rw [hr1.len]; exact hjn)
      cases e1
      rw [Nat.zero_add] at c1
      have hmem : Hid (nth R j ∈ A ∨ nth R j ∈ B) := hrm.out _ (nth_mem.2 ⟨j, by rw [hr1.len]; exact hjn, rfl⟩)
      go_wp2_with fail
      refine (sortedHas_any ao' n c' A (nth R j) _ ha.len (by omega) ha.sv).mono ?_
      rintro e w8 ⟨⟨x, rfl, hx⟩, hw⟩
      obtain rfl : w7 = w8 := hw.symm
      clear hw
      have hx' := hx hA
      clear hx
      cases x
      · have hmb : nth R j ∈ B := by
          rcases hmem.out with h | h
          · exact absurd (hx'.2 h) (by simp)
          · exact h
        clear hx'
        go_wp2_with fail
        refine (sortedHas_any bo' m d' B (nth R j) _ hb.len (by omega) hb.sv).mono ?_
        rintro e w9 ⟨⟨x, rfl, hx⟩, hw⟩
        obtain rfl : w7 = w9 := hw.symm
        clear hw
        obtain rfl : x = true := (hx hBi).2 hmb
        clear hx hmb
        go_wp2
        go_round
        case rel => exact ⟨j + 1, by omega, by go_num⟩
        case measure => simp [intOf]; omega
      · clear hx'
        go_wp2
        go_round
        case rel => exact ⟨j + 1, by omega, by go_num⟩
        case measure => simp [intOf]; omega
    · go_wp2
      go_ret
      exact ⟨rfl, ha.bel⟩

end Go.Proofs.Qxb6617857a
