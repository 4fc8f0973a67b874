import Derived.Test.Qxb6617857aDoorTxt
import Derived.Lib.AppendIntMem
namespace Go.Proofs.Qxb6617857aDoor
open Go.RowKit

theorem ret_str {a b : ByteArray} (h : a = b) : Ending.returned (.string a) = .returned (.string b) := by rw [h]

theorem stx_cat {v : Nat} (h : 3 ≤ v) (hv : v < 256) : ((⟨#[83, 116, 97, 116, 117, 115, 40]⟩ : ByteArray) ++ (⟨(Lib.itoa (v : Int)).toArray⟩ : ByteArray)) ++ (⟨#[41]⟩ : ByteArray) = stx v := by
  rw [itoa_dg v (by omega)]
  apply ByteArray.ext
  apply Array.toList_inj.1
  rw [stx_list h]
  simp [ByteArray.data_append, pre]

theorem dg_size {v : Nat} (hv : v < 256) : (Lib.itoa (v : Int)).length ≤ 3 := by
  rw [itoa_dg v (by omega)]; exact (dg_facts v hv).2.1

set_option maxHeartbeats 400000 in
theorem string_any (v : Nat) (hv : v < 256) (w : World) (htab : Lib.TabIs Tryd.prog w tabName .u64 Lib.pow10Tab) :
    Calls Tryd.prog 4 #[.int .u8 v] w fun e w' => e = .returned (.string (stx v)) ∧ Below w.heap.size w w' := by
  have hT : Hid (Lib.TabIs Tryd.prog w tabName .u64 Lib.pow10Tab) := htab
  clear htab
  by_cases h3 : 3 ≤ v
  · have HC : Hid (_ = stx v) := stx_cat h3 hv
    have hl := dg_size hv
    generalize hD : Lib.itoa (v : Int) = D at hl HC
    have HD : Hid (Lib.itoa (v : Int) = D) := hD
    clear hD
    go_enter Tryd.func4, Tryd.ntmps4
    go_wp2_with fail
    refine (itoa_any (v : Int) (by omega) (by omega) _ hT.out).mono ?_
    rintro e w1 ⟨rfl, k, os, hw⟩
    rw [HD.out]
    have hb : Below w.heap.size w w1 := by rw [hw]; exact Lib.below_grow _ _ (Nat.le_refl _) _ _
    clear hw
    go_wp2
    go_ret
    exact ⟨ret_str HC.out, hb⟩
  · obtain h | h | h : v = 0 ∨ v = 1 ∨ v = 2 := by omega
    all_goals
      subst h
      go_enter Tryd.func4, Tryd.ntmps4
      go_wp2
      go_ret
      exact ⟨rfl, Below.refl _ _⟩

theorem stx_size {v : Nat} (h : 3 ≤ v) : (stx v).size = (dg v).length + 8 := by
  have := congrArg List.length (stx_list h)
  simp only [Array.length_toList, List.length_append, pre, List.length_cons, List.length_nil] at this
  show (stx v).data.size = _
  omega

theorem last_of (s : ByteArray) (l : List UInt8) (c : UInt8) (hs : s.data.toList = l ++ [c]) (h : s.size - 1 < s.size) : s[s.size - 1]'h = c := by
  have hl : s.size = l.length + 1 := by
    have := congrArg List.length hs
    simpa using this
  have e : s[s.size - 1]'h = s.data.toList[s.size - 1]'(by simpa using h) := rfl
  rw [e]
  simp [hs, hl]

theorem head_of (d : ByteArray) (h : 0 < d.size) (c : UInt8) (hc : d.data.toList.head? ≠ some c) : d[0]'h ≠ c := by
  intro e
  apply hc
  have e2 : d[0]'h = d.data.toList[0]'(by simpa using h) := rfl
  rw [e2] at e
  rw [List.head?_eq_getElem?, List.getElem?_eq_getElem (by simpa using h), e]

theorem read_stx (v : Nat) (h3 : 3 ≤ v) (hv : v < 256) (w : World) :
    Calls Tryd.prog 8 #[.string (stx v)] w fun r w' => r = .returned (.tuple #[.int .i64 (v : Int), .bool true]) ∧ w' = w := by
  obtain ⟨f1, f2, f3, f4⟩ := dg_facts v hv
  have hs := stx_size h3
  have hl := stx_list h3
  have hz : 1 < (⟨(dg v).toArray⟩ : ByteArray).size → ((((⟨(dg v).toArray⟩ : ByteArray)[0]'(by show 0 < (dg v).toArray.size; simp; omega)).toNat : Int) == 48) = false := by
    intro h1
    have h1' : 1 < (dg v).length := by simpa [ByteArray.size] using h1
    have hne := head_of ⟨(dg v).toArray⟩ (by show 0 < (dg v).toArray.size; simp; omega) 48 (by simpa using f4 h1')
    rw [beq_eq_false_iff_ne]
    intro e
    apply hne
    apply UInt8.toNat_inj.1
    show _ = 48
    omega
  have key := read_core (stx v) w (by omega) (by omega)
    (by rw [ByteArray.toList_eq, Lib.extract_data, hl]; simp [pre])
    (by
      have := last_of (stx v) (pre ++ dg v) 41 hl (by omega)
      rw [this]; rfl)
    ⟨(dg v).toArray⟩
    (show _ = _ by
      apply ByteArray.ext
      apply Array.toList_inj.1
      rw [Lib.extract_data, hl, hs]
      simp [pre])
    (by show 0 < (dg v).toArray.size; simp; omega)
    (by show (dg v).toArray.size ≤ 3; simpa using f2)
    hz
    (by simpa using dg_dig v hv)
  have e : vt (⟨(dg v).toArray⟩ : ByteArray).data.toList = (v : Int) := by simpa using f1
  rw [e] at key
  exact key

theorem low_facts : ∀ v, v < 3 → 0 < (stx v).data.toList.length ∧ (stx v).data.toList.length ≤ 100 ∧ (stx v).data.toList.all (fun c => decide (97 ≤ c.toNat ∧ c.toNat ≤ 122)) = true := by decide +kernel

set_option maxHeartbeats 400000 in
theorem describes_any (v : Nat) (hv : v < 256) (w : World) :
    Calls Tryd.prog 5 #[.int .u8 v, .string (stx v)] w fun r w' => r = .returned (.bool true) ∧ w' = w := by
  by_cases h3 : 3 ≤ v
  · go_enter Tryd.func5, Tryd.ntmps5
    go_wp2_with fail
    refine (read_stx v h3 hv _).mono ?_
    rintro r w1 ⟨rfl, hw⟩
    obtain rfl : w = w1 := hw.symm
    clear hw
    go_wp2
    go_ret
    exact ⟨by simp, rfl⟩
  · have h2 : v ≤ 2 := by omega
    obtain ⟨g1, g2, g3⟩ := low_facts v (by omega)
    go_enter Tryd.func5, Tryd.ntmps5
    go_wp2_with fail
    refine (lower_any (stx v) _ (by simpa using g1) (by simpa using g2) (fun c hc => by simpa using List.all_eq_true.1 g3 c hc)).mono ?_
    rintro r w1 ⟨rfl, hw⟩
    obtain rfl : w = w1 := hw.symm
    clear hw
    go_wp2
    go_ret
    exact ⟨rfl, rfl⟩

set_option maxHeartbeats 1000000 in
theorem law_any (a b : Nat) (ha : a < 256) (hb : b < 256) (w : World) (htab : ∀ w' : World, Below w.heap.size w w' → Lib.TabIs Tryd.prog w' tabName .u64 Lib.pow10Tab) :
    Calls Tryd.prog 3 #[.int .u8 a, .int .u8 b] w fun r w' => r = .returned (.bool true) ∧ Below w.heap.size w w' := by
  have HT : Hid (∀ w' : World, Below w.heap.size w w' → Lib.TabIs Tryd.prog w' tabName .u64 Lib.pow10Tab) := htab
  clear htab
  have hq := stx_beq ha hb
  go_enter Tryd.func3, Tryd.ntmps3
  go_wp2_with fail
  refine (string_any a ha _ (HT.out _ (Below.refl _ _))).mono ?_
  rintro r w1 ⟨rfl, hb1⟩
  go_wp2_with fail
  refine (string_any b hb _ (HT.out _ hb1)).mono ?_
  rintro r w2 ⟨rfl, hb2⟩
  have HQ : Hid (((stx a).toList == (stx b).toList) = ((a : Int) == (b : Int))) := hq
  clear hq
  cases he : ((a : Int) == (b : Int))
  · have he2 : ((stx a).toList == (stx b).toList) = false := HQ.out.trans he
    clear HQ
    go_wp2_with fail
    refine (describes_any a ha _).mono ?_
    rintro r w3 ⟨rfl, hw⟩
    obtain rfl : w2 = w3 := hw.symm
    clear hw
    go_wp2_with fail
    refine (describes_any b hb _).mono ?_
    rintro r w3 ⟨rfl, hw⟩
    obtain rfl : w2 = w3 := hw.symm
    clear hw
    go_wp2
    go_ret
    exact ⟨rfl, hb1.trans (hb2.mono hb1.size)⟩
  · have he2 : ((stx a).toList == (stx b).toList) = true := HQ.out.trans he
    clear HQ
    go_wp2_with fail
    refine (describes_any a ha _).mono ?_
    rintro r w3 ⟨rfl, hw⟩
    obtain rfl : w2 = w3 := hw.symm
    clear hw
    go_wp2_with fail
    refine (describes_any b hb _).mono ?_
    rintro r w3 ⟨rfl, hw⟩
    obtain rfl : w2 = w3 := hw.symm
    clear hw
    go_wp2
    go_ret
    exact ⟨rfl, hb1.trans (hb2.mono hb1.size)⟩

end Go.Proofs.Qxb6617857aDoor
