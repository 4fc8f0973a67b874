import Derived.Test.Qxb6616754aWk
namespace Go.Proofs.Qxb6616754a
open Go.RowKit

set_option maxHeartbeats 4000000 in
/-- From the calls on, all answers known. -/
theorem own_core (g : ByteArray) (del : Bool) (a b : ByteArray) (w : World) (l1 : g.size ≤ 262144) (l2 : a.size ≤ 262144) (l3 : b.size ≤ 262144)
    (xo xa xb e0 ea eb eab : Bool) (ho : Hid (dl g del g = xo)) (ha : Hid (dl g del a = xa)) (hb : Hid (dl g del b = xb)) (h0 : g.toList.isEmpty = e0) (h1 : (a.toList == g.toList) = ea) (h2 : (b.toList == g.toList) = eb) (h3 : (a.toList == b.toList) = eab)
    (hod : (xo == del) = false) (hd : (del && (xa || xb)) = false) (hg0 : (e0 && ((xa != xo) || (xb != xo))) = false) (hga : (!e0 && xa && !ea) = false) (hgb : (!e0 && xb && !eb) = false) (hgab : (!e0 && !eab && xa && xb) = false) :
    Calls Try.prog 3 #[.string g, .bool del, .string a, .string b] w fun r w' => r = .returned (.bool true) ∧ Below w.heap.size w w' := by
  go_enter Try.func3, Try.ntmps3
  go_wp2_with fail
  refine (zzBytes3_any _ _ _ _ _).mono ?_
  rintro r w1 ⟨⟨x, rfl⟩, hw⟩
  obtain rfl : w = w1 := hw.symm
  cases x
  · go_wp2
    go_ret
    exact ⟨rfl, Below.refl _ _⟩
  go_wp2_with fail
  refine (newEntry_any _ _ _).mono ?_
  rintro r w1 ⟨h, rfl, he, hbl⟩
  go_wp2_with fail
  refine (zzDel_any h g del g _ he xo ho.out).mono ?_
  rintro r w2 ⟨rfl, hw⟩
  obtain rfl : w1 = w2 := hw.symm
  go_wp2_with fail
  refine (zzDel_any h g del a _ he xa ha.out).mono ?_
  rintro r w2 ⟨rfl, hw⟩
  obtain rfl : w1 = w2 := hw.symm
  go_wp2_with fail
  refine (zzDel_any h g del b _ he xb hb.out).mono ?_
  rintro r w2 ⟨rfl, hw⟩
  obtain rfl : w1 = w2 := hw.symm
  clear ho ha hb he
  cases del <;> cases xo <;> simp at hod <;> cases e0 <;> cases xa <;> cases xb <;> simp at hd hg0 <;> cases ea <;> simp at hga <;> cases eb <;> simp at hgb <;> cases eab <;> simp at hgab
  all_goals go_wp2
  all_goals go_ret
  all_goals exact ⟨rfl, hbl⟩

theorem dl_own (g : ByteArray) (del : Bool) : dl g del g = !del := by simp [dl]
theorem dl_empty {g : ByteArray} (h : g.toList.isEmpty = true) (del : Bool) (q : ByteArray) : dl g del q = !del := by simp [dl, h]
theorem dl_group {g : ByteArray} (h : g.toList.isEmpty = false) (del : Bool) (q : ByteArray) : dl g del q = (!del && (q.toList == g.toList)) := by
  have : (g.toList == q.toList) = (q.toList == g.toList) := by
    rw [Bool.eq_iff_iff]; simp only [beq_iff_eq]; exact ⟨Eq.symm, Eq.symm⟩
  simp [dl, h, this]

theorem own_small (g : ByteArray) (del : Bool) (a b : ByteArray) (w : World) (l1 : g.size ≤ 262144) (l2 : a.size ≤ 262144) (l3 : b.size ≤ 262144) :
    Calls Try.prog 3 #[.string g, .bool del, .string a, .string b] w fun r w' => r = .returned (.bool true) ∧ Below w.heap.size w w' := by
  refine own_core g del a b w l1 l2 l3 _ _ _ _ _ _ _ (show Hid (_ = _) from rfl) (show Hid (_ = _) from rfl) (show Hid (_ = _) from rfl) rfl rfl rfl rfl ?_ ?_ ?_ ?_ ?_ ?_
  · rw [dl_own]; cases del <;> rfl
  · cases del <;> simp [dl]
  · cases h : g.toList.isEmpty
    · rfl
    · simp [dl_empty h]
  · cases h : g.toList.isEmpty
    · rw [dl_group h]; cases del <;> cases (a.toList == g.toList) <;> rfl
    · rfl
  · cases h : g.toList.isEmpty
    · rw [dl_group h]; cases del <;> cases (b.toList == g.toList) <;> rfl
    · rfl
  · cases h : g.toList.isEmpty
    · rw [dl_group h, dl_group h]
      cases ha : (a.toList == g.toList)
      · simp
      · cases hb : (b.toList == g.toList)
        · simp
        · have e1 : a.toList = g.toList := by simpa using ha
          have e2 : b.toList = g.toList := by simpa using hb
          simp [e1, e2]
    · rfl

set_option maxHeartbeats 1000000 in
theorem own_any (g : ByteArray) (del : Bool) (a b : ByteArray) (w : World) :
    Calls Try.prog 3 #[.string g, .bool del, .string a, .string b] w fun r w' => r = .returned (.bool true) ∧ Below w.heap.size w w' := by
  by_cases hl : g.size ≤ 262144 ∧ a.size ≤ 262144 ∧ b.size ≤ 262144
  · exact own_small g del a b w hl.1 hl.2.1 hl.2.2
  · have hl' : 262144 < g.size ∨ (g.size ≤ 262144 ∧ 262144 < a.size) ∨ (g.size ≤ 262144 ∧ a.size ≤ 262144 ∧ 262144 < b.size) := by omega
    clear hl
    rcases hl' with l1 | ⟨l1, l2⟩ | ⟨l1, l2, l3⟩
    all_goals
      go_enter Try.func3, Try.ntmps3
      go_wp2_with fail
      refine (zzBytes3_any _ _ _ _ _).mono ?_
      rintro r w1 ⟨⟨x, rfl⟩, hw⟩
      obtain rfl : w = w1 := hw.symm
      cases x
      · go_wp2
        go_ret
        exact ⟨rfl, Below.refl _ _⟩
      · go_wp2
        go_ret
        exact ⟨rfl, Below.refl _ _⟩

end Go.Proofs.Qxb6616754a
