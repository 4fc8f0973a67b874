import Derived.Test.Qxb6617857aCpy
namespace Go.Proofs.Qxb6617857a
open Go.RowKit

set_option maxRecDepth 100000 in
set_option maxHeartbeats 2000000 in
theorem comm_any (ao bo : Option Addr) (n m c d : Nat) (A B : List ByteArray) (w : World) (ha : AV w w ao n c A) (hb : AV w w bo m d B) :
    Calls Try.prog 4 #[.slice ao n c, .slice bo m d] w fun e w' => e = .returned (.bool true) ∧ Below w.heap.size w w' := by
  obtain ⟨i0, hi, hz0, hz1, hz2⟩ := info_parts Try.info9
  have hnn := fun (w : World) (a : Option Addr) (n c : Nat) => run_neq_slice_nil_any (P := Try.prog) w 22 9 a n c 0 0 Try.underlying22
  go_enter Try.func4, Try.ntmps4
  go_wp2_with fail
  refine (zzBytes4_any ao bo n m c d A B _ ha.len hb.len ha.sv hb.sv).mono ?_
  rintro e w1 ⟨⟨x, rfl⟩, hw⟩
  obtain rfl : w = w1 := hw.symm
  clear hw
  cases x
  · go_wp2
    go_ret
    exact ⟨rfl, Below.refl _ _⟩
  by_cases hl : 65536 < n
  · go_wp2
    go_ret
    exact ⟨rfl, Below.refl _ _⟩
  by_cases hl2 : 65536 < m
  · go_wp2
    go_ret
    exact ⟨rfl, Below.refl _ _⟩
  go_upto_if 26 with (fail)
  go_cut [0] (fun s0 wr => ∃ ao' c', s0 = .slice ao' n c' ∧ AV w wr ao' n c' A ∧ AV w wr bo m d B)
  case first =>
    cases ao with
    | none =>
      go_wp2
      go_meet
      case rel => exact ⟨_, _, rfl, ha, hb⟩
    | some ad =>
      go_wp2_with (at_make; refine wpList_make_full _ rfl _ _ 22 rfl w.heap.size 9 i0 (.string ⟨#[]⟩) 1 Try.underlying22 hi hz0 hz1 _ _ _ _ n rfl rfl rfl rfl (by rw [hz2]; omega) (by unfold maxLen; omega) (Nat.le_refl _) ?_; intro w1 hown1 hgrow1; obtain ⟨w2, k2, hrun, hsv, hgrow2⟩ := copy_run 3 w.heap.size w.heap.size n c (some ad) _ hown1 A ha.len (ha.made hgrow1))
      go_meet
      case rel => exact ⟨_, _, rfl, ha.copied hgrow1 hgrow2 hsv, hb.next (copied_below hgrow1 hgrow2)⟩
  case rest =>
  clear ha hb
  obtain ⟨ao', c', rfl, ha, hb⟩ := hcut
  go_upto_if 35 with (fail)
  go_cut [1] (fun s1 wr => ∃ bo' d', s1 = .slice bo' m d' ∧ AV w wr ao' n c' A ∧ AV w wr bo' m d' B)
  case first =>
    cases bo with
    | none =>
      go_wp2
      go_meet
      case rel => exact ⟨_, _, rfl, ha, hb⟩
    | some ad =>
      go_wp2_with (at_make; refine wpList_make_full _ rfl _ _ 22 rfl wc.heap.size 9 i0 (.string ⟨#[]⟩) 1 Try.underlying22 hi hz0 hz1 _ _ _ _ m rfl rfl rfl rfl (by rw [hz2]; omega) (by unfold maxLen; omega) (Nat.le_refl _) ?_; intro w1 hown1 hgrow1; obtain ⟨w2, k2, hrun, hsv, hgrow2⟩ := copy_run 3 wc.heap.size wc.heap.size m d (some ad) _ hown1 B hb.len (hb.made hgrow1))
      go_meet
      case rel => exact ⟨_, _, rfl, ha.next (copied_below hgrow1 hgrow2), hb.copied hgrow1 hgrow2 hsv⟩
  case rest =>
  clear ha hb
  obtain ⟨bo', d', rfl, ha, hb⟩ := hcut
  clear hnn hi hz0 hz1 hz2
  go_wp2_with fail
  refine (stringBytes_any ao' n c' A 0 _ ha.len (by omega) ha.sv).mono ?_
  rintro e w2 ⟨⟨t, rfl⟩, hw⟩
  obtain rfl : wc = w2 := hw.symm
  clear hw
  by_cases ht : 1048576 < t
  · go_wp2
    go_ret
    exact ⟨rfl, ha.bel⟩
  go_wp2_with fail
  refine (stringBytes_any bo' m d' B t _ hb.len (by omega) hb.sv).mono ?_
  rintro e w2 ⟨⟨t2, rfl⟩, hw⟩
  obtain rfl : wc = w2 := hw.symm
  clear hw
  by_cases ht2 : 1048576 < t2
  · go_wp2
    go_ret
    exact ⟨rfl, ha.bel⟩
  go_wp2_with fail
  refine (strictly_any ao' n c' A _ ha.len (by omega) ha.sv).mono ?_
  rintro e w2 ⟨⟨x, rfl, hx⟩, hdr⟩
  replace ha := ha.next hdr.below
  replace hb := hb.next hdr.below
  clear hdr
  cases x
  · clear hx
    go_wp2
    go_ret
    exact ⟨rfl, ha.bel⟩
  have sa := S_of_Inc (hx.1 rfl)
  clear hx
  go_wp2_with fail
  refine (strictly_any bo' m d' B _ hb.len (by omega) hb.sv).mono ?_
  rintro e w3 ⟨⟨x, rfl, hx⟩, hdr⟩
  replace ha := ha.next hdr.below
  replace hb := hb.next hdr.below
  clear hdr
  cases x
  · clear hx
    go_wp2
    go_ret
    exact ⟨rfl, ha.bel⟩
  have sb := S_of_Inc (hx.1 rfl)
  clear hx
  go_wp2_with fail
  refine (zzMerge_any ao' bo' n m c' d' A B w _ ha hb (by omega) (by omega)).mono ?_
  rintro e w4 ⟨g1, k1, cap1, hk1, rfl, hr1, hbl⟩
  replace ha := ha.next hbl
  replace hb := hb.next hbl
  clear hbl
  go_wp2_with fail
  refine (zzMerge_any bo' ao' m n d' c' B A w _ hb ha (by omega) (by omega)).mono ?_
  rintro e w5 ⟨g2, k2, cap2, hk2, rfl, hr2, hbl⟩
  replace ha := ha.next hbl
  replace hb := hb.next hbl
  replace hr1 := hr1.next hbl
  clear hbl
  rw [mrg_comm ha.len hb.len sa sb] at hr2
  have HL := mrg_len (n + m) A B (by rw [ha.len, hb.len]; exact Nat.le_refl _) sa sb
  rw [ha.len, hb.len, hr1.len] at HL
  obtain rfl : k1 = k2 := hr1.len.symm.trans hr2.len
  have HL' : Hid (k1 + cnt A B = n + m) := HL
  clear HL
  generalize mrg (n + m) A B = R at hr1 hr2
  go_wp2
  go_loopw [10] (fun i wr => ∃ k : Nat, k ≤ k1 ∧ i = .int .i64 k ∧ Dr w5 wr) (fun i _ => k1 - (intOf i).toNat)
  case atStart => exact ⟨0, Nat.zero_le _, rfl, Dr.refl _⟩
  case round =>
    obtain ⟨k, hk, rfl, hdr⟩ := hrel
    replace ha := ha.next hdr.below
    replace hb := hb.next hdr.below
    replace hr1 := hr1.next hdr.below
    replace hr2 := hr2.next hdr.below
    by_cases hlt : k < k1
    · obtain ⟨b1, o1, e1, c1⟩ := hr1.sv k (by rw [hr1.len]; exact hlt)
      obtain ⟨b2, o2, e2, c2⟩ := hr2.sv k (by rw [hr2.len]; exact hlt)
      cases e1
      cases e2
      rw [Nat.zero_add] at c1 c2
      clear ha hb hr1 hr2 sa sb
      go_wp2
      go_quiet (fail)
      go_wp2
      go_roundw
      case rel => exact ⟨k + 1, by omega, by go_num, hdr.trans (Dr.one _ _)⟩
      case measure => simp [intOf]; omega
    · clear hr1 hr2 hdr
      have hA := Inc_of_S sa
      have hBi := Inc_of_S sb
      clear sa sb
      go_wp2
      go_loop [11, 12] (fun x i => ∃ k : Nat, k ≤ n ∧ i = .int .i64 k ∧ x = .int .i64 (cntTo A B k)) (fun _ i => n - (intOf i).toNat)
      case atStart => exact ⟨0, Nat.zero_le _, rfl, rfl⟩
      case round =>
        obtain ⟨j, hj, rfl, rfl⟩ := hrel
        have hcl := cntTo_le A B j
        by_cases hjn : j < n
        · obtain ⟨b1, o1, rfl, c1⟩ := ha.sv j (by rw [ha.len]; exact hjn)
          go_wp2_with fail
          refine (sortedHas_any bo' m d' B (nth A j) _ hb.len (by omega) hb.sv).mono ?_
          rintro e w6 ⟨⟨x, rfl, hx⟩, hw⟩
          obtain rfl : wr = w6 := hw.symm
          clear hw
          have hx' := hx hBi
          clear hx
          have hjl : j < A.length := by rw [ha.len]; exact hjn
          cases x
          · have HC : Hid (cntTo A B (j + 1) = cntTo A B j) := cntTo_out hjl (fun h => by have := hx'.2 h; cases this)
            clear hx'
            go_wp2
            go_round
            case rel => exact ⟨j + 1, by omega, by go_num, by rw [HC.out]⟩
            case measure => simp [intOf]; omega
          · have HC : Hid (cntTo A B (j + 1) = cntTo A B j + 1) := cntTo_in hjl (hx'.1 rfl)
            clear hx'
            go_wp2
            go_round
            case rel => exact ⟨j + 1, by omega, by go_num, by rw [HC.out]; go_num⟩
            case measure => simp [intOf]; omega
        · obtain rfl : j = n := by omega
          have hE : ((k1 : Int) == (j : Int) + (m : Int) - (cntTo A B j : Int)) = true := by
            have h1 := HL'.out
            rw [cntTo_all ha.len]
            simp; omega
          go_wp2
          go_ret
          exact ⟨by simp, ha.bel⟩

end Go.Proofs.Qxb6617857a
