import Derived.Test.Qxb6617857aPartW
namespace Go.Proofs.Qxb6617857a
open Go.RowKit

theorem pk_asc (p k : ByteArray) : (!bl p k && !(p.toList == k.toList)) = Op.bytesLess k.toList p.toList := by
  have h := L_le p.toList k.toList
  unfold bl
  cases h1 : Op.bytesLess p.toList k.toList <;> cases h2 : (p.toList == k.toList) <;> simp [h1, h2] at h ⊢ <;> simp [h]

theorem emp_false {s e : ByteArray} (h : (!emp s e) = true) : (e.toList.isEmpty || Op.bytesLess s.toList e.toList) = true := by
  unfold emp bl at h
  cases h1 : e.toList.isEmpty <;> simp [h1] at h ⊢
  exact h

theorem inR_start {s e : ByteArray} (h : (!emp s e) = true) : inR s e s = true := by
  rw [inR_iff, L_irrefl, emp_false h]; rfl

theorem part_small (s e k k2 p : ByteArray) (o : Int) (w : World) (l1 : s.size ≤ 65536) (l2 : e.size ≤ 65536) (l3 : k.size ≤ 65536) (l4 : k2.size ≤ 65536) (l5 : p.size ≤ 65536) (hin : inR s e k = true) :
    Calls Try.prog 5 #[.string s, .string e, .int .u8 o, .string k, .string k2, .string p] w fun r w' => r = .returned (.bool true) ∧ Below w.heap.size w w' := by
  cases ho : (o == 1)
  · refine part_core s e k k2 p o w l1 l2 l3 l4 l5 hin (k ++ ⟨#[0]⟩) e (k2 ++ ⟨#[0]⟩) e (k2 ++ ⟨#[0]⟩) e (!emp (k ++ ⟨#[0]⟩) e) (!emp (k2 ++ ⟨#[0]⟩) e) (inR s e p) (!bl p k && !(p.toList == k.toList)) false (fun p => !bl p k && !(p.toList == k.toList))
      (fun w => zz_asc _ _ _ _ w ho l3) (fun w => zz_asc _ _ _ _ w ho l4) (fun w => zz_asc _ _ _ _ w ho l4) (fun p w => pastKey_asc o p k w ho) (show Hid (_ = _) from rfl) (show Hid (_ = _) from rfl) ?_ ?_ ho rfl (by simp) (by simp)
    · intro hok
      have h1 := asc_part s e k p hin
      have h2 := asc_part s e k (k ++ ⟨#[0]⟩) hin
      rw [hok, Bool.true_and] at h1 h2
      rw [inR_start hok] at h2
      have h3 := Bool.and_eq_true_iff.1 h2.symm
      exact ⟨by rw [h1, pk_asc], inR_start hok, h3.1, by rw [pk_asc]; exact h3.2⟩
    · rw [pk_asc, ← asc_part s e k p hin]
      cases (!emp (k ++ ⟨#[0]⟩) e) <;> rfl
  · obtain rfl : o = 1 := by simpa using ho
    cases hk : k.toList.isEmpty
    · have hok : (!emp s k) = true → inR s k p = (inR s e p && bl p k) ∧ inR s k s = true ∧ inR s e s = true ∧ bl s k = true := by
        intro hok
        have h1 := desc_part s e k p hin hk
        have h2 := desc_part s e k s hin hk
        rw [hok, Bool.true_and] at h1 h2
        rw [inR_start hok] at h2
        have h3 := Bool.and_eq_true_iff.1 h2.symm
        exact ⟨h1, inR_start hok, h3.1, h3.2⟩
      have hno : (!(!emp s k) && (inR s e p && bl p k)) = false := by
        have h1 := desc_part s e k p hin hk
        rw [show (inR s e p && bl p k) = (!emp s k && inR s k p) from h1.symm]
        cases (!emp s k) <;> rfl
      cases hk2 : k2.toList.isEmpty
      · exact part_core s e k k2 p 1 w l1 l2 l3 l4 l5 hin s k s k2 s k2 (!emp s k) (!emp s k2) (inR s e p) (bl p k) true (fun p => bl p k)
          (fun w => zz_desc _ _ _ w hk) (fun w => zz_desc _ _ _ w hk2) (fun w => zz_desc _ _ _ w hk2) (fun p w => pastKey_desc 1 p k w rfl) (show Hid (_ = _) from rfl) (show Hid (_ = _) from rfl) hok hno rfl (by simp) rfl (by simp)
      · exact part_core s e k k2 p 1 w l1 l2 l3 l4 l5 hin s k s k s e (!emp s k) false (inR s e p) (bl p k) true (fun p => bl p k)
          (fun w => zz_desc _ _ _ w hk) (fun w => zz_desc_nil _ _ _ w hk2) (fun w => zz_desc_nil _ _ _ w hk2) (fun p w => pastKey_desc 1 p k w rfl) (show Hid (_ = _) from rfl) (show Hid (_ = _) from rfl) hok hno rfl (by simp) rfl rfl
    · have hno : (!false && (inR s e p && bl p k)) = false := by
        have := desc_none s e p k hk
        rw [show (inR s e p && bl p k) = false from this]; rfl
      cases hk2 : k2.toList.isEmpty
      · exact part_core s e k k2 p 1 w l1 l2 l3 l4 l5 hin s e s k2 s k2 false (!emp s k2) (inR s e p) (bl p k) true (fun p => bl p k)
          (fun w => zz_desc_nil _ _ _ w hk) (fun w => zz_desc _ _ _ w hk2) (fun w => zz_desc _ _ _ w hk2) (fun p w => pastKey_desc 1 p k w rfl) (show Hid (_ = _) from rfl) (show Hid (_ = _) from rfl) (fun h => by cases h) hno rfl (by simp) rfl (by simp)
      · exact part_core s e k k2 p 1 w l1 l2 l3 l4 l5 hin s e s e s e false false (inR s e p) (bl p k) true (fun p => bl p k)
          (fun w => zz_desc_nil _ _ _ w hk) (fun w => zz_desc_nil _ _ _ w hk2) (fun w => zz_desc_nil _ _ _ w hk2) (fun p w => pastKey_desc 1 p k w rfl) (show Hid (_ = _) from rfl) (show Hid (_ = _) from rfl) (fun h => by cases h) hno rfl (by simp) rfl rfl

set_option maxRecDepth 100000 in
set_option maxHeartbeats 1000000 in
theorem part_any (s e : ByteArray) (o : Int) (k k2 p : ByteArray) (w : World) :
    Calls Try.prog 5 #[.string s, .string e, .int .u8 o, .string k, .string k2, .string p] w fun r w' => r = .returned (.bool true) ∧ Below w.heap.size w w' := by
  by_cases hl : s.size ≤ 65536 ∧ e.size ≤ 65536 ∧ k.size ≤ 65536 ∧ k2.size ≤ 65536 ∧ p.size ≤ 65536
  · obtain ⟨l1, l2, l3, l4, l5⟩ := hl
    cases hin : inR s e k
    · go_enter Try.func5, Try.ntmps5
      go_wp2_with fail
      refine (zzBytes5_any _ _ _ _ _ _ _).mono ?_
      rintro r w1 ⟨x, rfl, hw⟩
      obtain rfl : w = w1 := hw.symm
      cases x
      · go_wp2
        go_ret
        exact ⟨rfl, Below.refl _ _⟩
      · go_wp2_with (go_at_call 15; refine (inRange_is _ _ _ _ _ hin).mono ?_; rintro r w2 ⟨rfl, rfl⟩)
        go_ret
        exact ⟨rfl, Below.refl _ _⟩
    · exact part_small s e k k2 p o w l1 l2 l3 l4 l5 hin
  · have hl' : 65536 < s.size ∨ (s.size ≤ 65536 ∧ 65536 < e.size) ∨ (s.size ≤ 65536 ∧ e.size ≤ 65536 ∧ 65536 < k.size) ∨ (s.size ≤ 65536 ∧ e.size ≤ 65536 ∧ k.size ≤ 65536 ∧ 65536 < k2.size) ∨ (s.size ≤ 65536 ∧ e.size ≤ 65536 ∧ k.size ≤ 65536 ∧ k2.size ≤ 65536 ∧ 65536 < p.size) := by omega
    clear hl
    rcases hl' with l1 | ⟨l1, l2⟩ | ⟨l1, l2, l3⟩ | ⟨l1, l2, l3, l4⟩ | ⟨l1, l2, l3, l4, l5⟩
    all_goals
      go_enter Try.func5, Try.ntmps5
      go_wp2_with fail
      refine (zzBytes5_any _ _ _ _ _ _ _).mono ?_
      rintro r w1 ⟨x, rfl, hw⟩
      obtain rfl : w = w1 := hw.symm
      cases x
      · go_wp2
        go_ret
        exact ⟨rfl, Below.refl _ _⟩
      · go_wp2
        go_ret
        exact ⟨rfl, Below.refl _ _⟩

end Go.Proofs.Qxb6617857a
