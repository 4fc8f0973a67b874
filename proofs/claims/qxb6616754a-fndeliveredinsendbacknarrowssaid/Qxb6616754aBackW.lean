import Derived.Test.Qxb6616754aOwnW
namespace Go.Proofs.Qxb6616754a
open Go.RowKit

theorem emp0 : (⟨#[]⟩ : ByteArray).toList.isEmpty = true := by rw [ByteArray.toList_eq]; rfl

set_option maxHeartbeats 4000000 in
/-- From the calls on, all answers known. -/
theorem back_core (g : ByteArray) (del : Bool) (a : ByteArray) (w : World) (l1 : g.size ≤ 262144) (l2 : a.size ≤ 262144)
    (xs e0 ea : Bool) (hs : Hid (dl g del a = xs)) (h0 : g.toList.isEmpty = e0) (h1 : (a.toList == g.toList) = ea)
    (hd : (del && xs) = false) (hga : (!e0 && !ea && xs) = false) (hge : (ea && (xs != !del)) = false) :
    Calls Try.prog 4 #[.string g, .bool del, .string a] w fun r w' => r = .returned (.bool true) ∧ Below w.heap.size w w' := by
  go_enter Try.func4, Try.ntmps4
  go_wp2_with fail
  refine (zzBytes4_any _ _ _ _).mono ?_
  rintro r w1 ⟨⟨x, rfl⟩, hw⟩
  obtain rfl : w = w1 := hw.symm
  cases x
  · go_wp2
    go_ret
    exact ⟨rfl, Below.refl _ _⟩
  go_wp2_with fail
  refine (newEntry_any _ _ _).mono ?_
  rintro r w1 ⟨h, rfl, he, hbl⟩
  go_wp2_with fail
  refine (newEntry_any _ _ _).mono ?_
  rintro r w2 ⟨k, rfl, hk, hbl2⟩
  replace he := he.next hbl2
  go_wp2_with fail
  refine (zzDel_any h _ del a _ he (!del) (dl_empty emp0 _ _)).mono ?_
  rintro r w3 ⟨rfl, hw⟩
  obtain rfl : w2 = w3 := hw.symm
  go_wp2_with fail
  refine (zzDel_any h _ del g _ he (!del) (dl_empty emp0 _ _)).mono ?_
  rintro r w3 ⟨rfl, hw⟩
  obtain rfl : w2 = w3 := hw.symm
  go_wp2_with fail
  refine (zzDel_any k g del a _ hk xs hs.out).mono ?_
  rintro r w3 ⟨rfl, hw⟩
  obtain rfl : w2 = w3 := hw.symm
  go_wp2_with fail
  refine (zzDel_any k g del g _ hk (!del) (dl_own _ _)).mono ?_
  rintro r w3 ⟨rfl, hw⟩
  obtain rfl : w2 = w3 := hw.symm
  clear hs he hk
  cases del <;> cases xs <;> simp at hd <;> cases e0 <;> cases ea <;> simp at hga hge
  all_goals go_wp2
  all_goals go_ret
  all_goals exact ⟨rfl, hbl.trans (hbl2.mono hbl.size)⟩

set_option maxHeartbeats 1000000 in
theorem back_any (g : ByteArray) (del : Bool) (a : ByteArray) (w : World) :
    Calls Try.prog 4 #[.string g, .bool del, .string a] w fun r w' => r = .returned (.bool true) ∧ Below w.heap.size w w' := by
  by_cases hl : g.size ≤ 262144 ∧ a.size ≤ 262144
  · refine back_core g del a w hl.1 hl.2 _ _ _ (show Hid (_ = _) from rfl) rfl rfl ?_ ?_ ?_
    · cases del <;> simp [dl]
    · cases h : g.toList.isEmpty
      · rw [dl_group h]; cases del <;> cases (a.toList == g.toList) <;> rfl
      · rfl
    · cases h : (a.toList == g.toList)
      · rfl
      · have e : a.toList = g.toList := by simpa using h
        simp [dl, e]
  · have hl' : 262144 < g.size ∨ (g.size ≤ 262144 ∧ 262144 < a.size) := by omega
    clear hl
    rcases hl' with l1 | ⟨l1, l2⟩
    all_goals
      go_enter Try.func4, Try.ntmps4
      go_wp2_with fail
      refine (zzBytes4_any _ _ _ _).mono ?_
      rintro r w1 ⟨⟨x, rfl⟩, hw⟩
      obtain rfl : w = w1 := hw.symm
      cases x
      · go_wp2
        go_ret
        exact ⟨rfl, Below.refl _ _⟩
      · go_wp2
        go_ret
        exact ⟨rfl, Below.refl _ _⟩

end Go.Proofs.Qxb6616754a
