import Derived.Test.Qxb6617857aOrd
namespace Go.Proofs.Qxb6617857a
open Go.RowKit

/-- What a call of ZZWalkPast comes to. -/
def ZZ (s e : ByteArray) (o : Int) (k s1 e1 : ByteArray) (ok : Bool) : Prop :=
  ∀ w : World, Calls Try.prog 16 #[.string s, .string e, .int .u8 o, .string k] w fun r w' => r = .returned (.tuple #[.string s1, .string e1, .int .u8 o, .bool ok]) ∧ Below w.heap.size w w'
/-- What pastKey comes to. -/
def PK (o : Int) (k : ByteArray) (pk : ByteArray → Bool) : Prop :=
  ∀ (p : ByteArray) (w : World), Calls Try.prog 17 #[.int .u8 o, .string p, .string k] w fun r w' => r = .returned (.bool (pk p)) ∧ w' = w

theorem inRange_is (s e p : ByteArray) (w : World) (x : Bool) (hx : inR s e p = x) :
    Calls Try.prog 15 #[.string s, .string e, .string p] w fun r w' => r = .returned (.bool x) ∧ w' = w := by
  subst hx; exact inRange_any s e p w

theorem pk_is {o : Int} {k : ByteArray} {pk : ByteArray → Bool} (h : PK o k pk) (p : ByteArray) (w : World) (x : Bool) (hx : pk p = x) :
    Calls Try.prog 17 #[.int .u8 o, .string p, .string k] w fun r w' => r = .returned (.bool x) ∧ w' = w := by
  subst hx; exact h p w

set_option maxRecDepth 100000 in
set_option maxHeartbeats 4000000 in
theorem part_core (s e k k2 p : ByteArray) (o : Int) (w : World) (l1 : s.size ≤ 65536) (l2 : e.size ≤ 65536) (l3 : k.size ≤ 65536) (l4 : k2.size ≤ 65536) (l5 : p.size ≤ 65536)
    (hin : Hid (inR s e k = true)) (s1 e1 s2 e2 s3 e3 : ByteArray) (ok ok2 x0 y d : Bool) (pk : ByteArray → Bool)
    (HZ1 : ZZ s e o k s1 e1 ok) (HZ2 : ZZ s1 e1 o k2 s2 e2 ok2) (HZ3 : ZZ s e o k2 s3 e3 ok2) (HP : PK o k pk) (hx0 : Hid (inR s e p = x0)) (hy : Hid (pk p = y))
    (hok : Hid (ok = true → inR s1 e1 p = (x0 && y) ∧ inR s1 e1 s1 = true ∧ inR s e s1 = true ∧ pk s1 = true)) (hno : (!ok && (x0 && y)) = false)
    (hd : (o == 1) = d) (hs : (d && !(s1.toList == s.toList)) = false) (he : (!d && !(e1.toList == e.toList)) = false) (h2 : (ok2 && (!(s2.toList == s3.toList) || !(e2.toList == e3.toList))) = false) :
    Calls Try.prog 5 #[.string s, .string e, .int .u8 o, .string k, .string k2, .string p] w fun r w' => r = .returned (.bool true) ∧ Below w.heap.size w w' := by
  go_enter Try.func5, Try.ntmps5
  go_wp2_with fail
  refine (zzBytes5_any _ _ _ _ _ _ _).mono ?_
  rintro r w1 ⟨x, rfl, hw⟩
  obtain rfl : w = w1 := hw.symm
  cases x
  · clear hno hd hs he h2
    go_wp2
    go_ret
    exact ⟨rfl, Below.refl _ _⟩
  have HN : Hid ((!ok && (x0 && y)) = false) := hno
  have HS : Hid ((d && !(s1.toList == s.toList)) = false) := hs
  have HE : Hid ((!d && !(e1.toList == e.toList)) = false) := he
  have H2 : Hid ((ok2 && (!(s2.toList == s3.toList) || !(e2.toList == e3.toList))) = false) := h2
  have HD : Hid ((o == 1) = d) := hd
  clear hno hs he h2 hd hw
  go_wp2_with fail
  refine (inRange_is _ _ _ _ true hin.out).mono ?_
  rintro r w1 ⟨rfl, hw⟩
  obtain rfl : w = w1 := hw.symm
  clear hw
  go_wp2_with fail
  refine (HZ1 _).mono ?_
  rintro r w1 ⟨rfl, hb1⟩
  go_wp2_with fail
  refine (inRange_is _ _ _ _ x0 hx0.out).mono ?_
  rintro r w2 ⟨rfl, hw⟩
  obtain rfl : w1 = w2 := hw.symm
  clear hw
  have hD := HD.out
  have hS := HS.out
  have hE := HE.out
  have h2 := H2.out
  have hN := HN.out
  clear HD HS HE H2 HN hin hx0
  cases ok
  · clear hok
    cases d <;> simp only [Bool.true_and, Bool.false_and, Bool.not_true, Bool.not_false, Bool.not_eq_false'] at hS hE
    all_goals cases ok2 <;> simp only [Bool.true_and, Bool.false_and, Bool.or_eq_false_iff, Bool.not_eq_false'] at h2
    all_goals cases x0 <;> cases y <;> simp only [Bool.not_false, Bool.and_true, Bool.and_false, Bool.true_eq_false] at hN
    all_goals go_wp2_with (first
      | (go_at_call_of 17 (Value.string p); refine (pk_is HP _ _ _ hy.out).mono ?_; rintro r w2 ⟨rfl, rfl⟩)
      | (go_at_call_of 16 (Value.string s1); refine (HZ2 _).mono ?_; rintro r w3 ⟨rfl, hb2⟩)
      | (go_at_call_of 16 (Value.string s); refine (HZ3 _).mono ?_; rintro r w4 ⟨rfl, hb3⟩))
    all_goals go_ret
    all_goals exact ⟨rfl, hb1.trans ((hb2.trans (hb3.mono hb2.size)).mono hb1.size)⟩
  · have HK : Hid (inR s1 e1 p = (x0 && y) ∧ inR s1 e1 s1 = true ∧ inR s e s1 = true ∧ pk s1 = true) := hok.out rfl
    clear hok hN
    cases d <;> simp only [Bool.true_and, Bool.false_and, Bool.not_true, Bool.not_false, Bool.not_eq_false'] at hS hE
    all_goals cases ok2 <;> simp only [Bool.true_and, Bool.false_and, Bool.or_eq_false_iff, Bool.not_eq_false'] at h2
    all_goals cases x0 <;> cases y
    all_goals go_wp2_with (first
      | (go_at_call_of 17 (Value.string p); refine (pk_is HP _ _ _ hy.out).mono ?_; rintro r w2 ⟨rfl, rfl⟩)
      | (go_at_call_of 17 (Value.string s1); refine (pk_is HP _ _ _ HK.out.2.2.2).mono ?_; rintro r w2 ⟨rfl, rfl⟩)
      | (go_at_call_of 15 (Value.string p); refine (inRange_is _ _ _ _ _ HK.out.1).mono ?_; rintro r w2 ⟨rfl, rfl⟩)
      | (go_at_call_of 15 (Value.string s); refine (inRange_is _ _ _ _ _ HK.out.2.2.1).mono ?_; rintro r w2 ⟨rfl, rfl⟩)
      | (go_at_call_of 15 (Value.string e1); refine (inRange_is _ _ _ _ _ HK.out.2.1).mono ?_; rintro r w2 ⟨rfl, rfl⟩)
      | (go_at_call_of 16 (Value.string s1); refine (HZ2 _).mono ?_; rintro r w3 ⟨rfl, hb2⟩)
      | (go_at_call_of 16 (Value.string s); refine (HZ3 _).mono ?_; rintro r w4 ⟨rfl, hb3⟩))
    all_goals go_ret
    all_goals exact ⟨rfl, hb1.trans ((hb2.trans (hb3.mono hb2.size)).mono hb1.size)⟩

end Go.Proofs.Qxb6617857a
