import Derived.Test.Qxb6617857aOrd
namespace Go.Proofs.Qxb6617857a
open Go.RowKit

theorem count_full (s e k p : ByteArray) (hin : inR s e k = true) (hk : k.toList.isEmpty = false) :
    b2i (p.toList == k.toList) + b2i (!emp (k ++ ⟨#[0]⟩) e && inR (k ++ ⟨#[0]⟩) e p) + b2i (!emp s k && inR s k p) = b2i (inR s e p) := by
  rw [asc_part s e k p hin, desc_part s e k p hin hk]
  refine split_count _ _ _ fun h => ?_
  rw [inR_iff] at hin ⊢
  rw [h]; exact hin

theorem count_nil (s e k p : ByteArray) (hin : inR s e k = true) (hk : k.toList.isEmpty = true) :
    b2i (p.toList == k.toList) + b2i (!emp (k ++ ⟨#[0]⟩) e && inR (k ++ ⟨#[0]⟩) e p) = b2i (inR s e p) := by
  have h := split_count p.toList k.toList (inR s e p) fun h => by
    rw [inR_iff] at hin ⊢
    rw [h]; exact hin
  rw [desc_none s e p k hk] at h
  rw [asc_part s e k p hin]
  simpa [b2i] using h

set_option maxHeartbeats 1000000 in
theorem splits_any (s e k p : ByteArray) (w : World) :
    Calls Try.prog 6 #[.string s, .string e, .string k, .string p] w fun r w' => r = .returned (.bool true) ∧ Below w.heap.size w w' := by
  go_enter Try.func6, Try.ntmps6
  go_wp2_with fail
  refine (zzBytes6_any _ _ _ _ _).mono ?_
  rintro r w1 ⟨x, rfl, rfl⟩
  cases x
  · go_wp2
    go_ret
    exact ⟨rfl, Below.refl _ _⟩
  by_cases hl : s.size ≤ 65536 ∧ e.size ≤ 65536 ∧ k.size ≤ 65536 ∧ p.size ≤ 65536
  · obtain ⟨l1, l2, l3, l4⟩ := hl
    go_wp2_with fail
    refine (inRange_any _ _ _ _).mono ?_
    rintro r w1 ⟨rfl, rfl⟩
    cases hin : inR s e k
    · go_wp2
      go_ret
      exact ⟨rfl, Below.refl _ _⟩
    · go_wp2_with fail
      refine (zz_asc _ _ _ _ _ rfl l3).mono ?_
      rintro r w2 ⟨rfl, hb2⟩
      go_wp2_with fail
      cases hk : k.toList.isEmpty
      · have HC : Hid (_ = _) := count_full s e k p hin hk
        refine (zz_desc _ _ _ _ hk).mono ?_
        rintro r w3 ⟨rfl, hb3⟩
        go_wp2_with (go_at_call 15; refine (inRange_any _ _ _ _).mono ?_; rintro r w1 ⟨rfl, rfl⟩)
        all_goals go_ret
        all_goals refine ⟨?_, hb2.trans (hb3.mono hb2.size)⟩
        all_goals first | rfl | (exfalso; have h := HC.out; simp [b2i, *] at h)
      · have HC : Hid (_ = _) := count_nil s e k p hin hk
        refine (zz_desc_nil _ _ _ _ hk).mono ?_
        rintro r w3 ⟨rfl, hb3⟩
        go_wp2_with (go_at_call 15; refine (inRange_any _ _ _ _).mono ?_; rintro r w1 ⟨rfl, rfl⟩)
        all_goals go_ret
        all_goals refine ⟨?_, hb2.trans (hb3.mono hb2.size)⟩
        all_goals first | rfl | (exfalso; have h := HC.out; simp [b2i, *] at h)
  · have hl' : 65536 < s.size ∨ (s.size ≤ 65536 ∧ 65536 < e.size) ∨ (s.size ≤ 65536 ∧ e.size ≤ 65536 ∧ 65536 < k.size) ∨ (s.size ≤ 65536 ∧ e.size ≤ 65536 ∧ k.size ≤ 65536 ∧ 65536 < p.size) := by omega
    clear hl
    rcases hl' with l1 | ⟨l1, l2⟩ | ⟨l1, l2, l3⟩ | ⟨l1, l2, l3, l4⟩
    all_goals go_wp2_with fail
    all_goals go_ret
    all_goals exact ⟨rfl, Below.refl _ _⟩

end Go.Proofs.Qxb6617857a
