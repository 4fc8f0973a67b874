import Derived.Test.Qxb6617857aDoorRows
import Derived.WalkKit
import Derived.WalkSpells
import Derived.WalkLawsBesides
import Derived.Deep.DeepCutAuto
namespace Go.Proofs.Qxb6617857aDoor
open Go.RowKit

/-- the number that a list of digits says -/
def vt (l : List UInt8) : Int := l.foldl (fun a c => a * 10 + ((c.toNat : Int) - 48)) 0
theorem vt_snoc (l : List UInt8) (c : UInt8) : vt (l ++ [c]) = vt l * 10 + ((c.toNat : Int) - 48) := by simp [vt]
def Dig (l : List UInt8) : Prop := ∀ c ∈ l, 48 ≤ c.toNat ∧ c.toNat ≤ 57
theorem vt_bound : ∀ (k : Nat) (l : List UInt8), l.length = k → Dig l → 0 ≤ vt l ∧ vt l < 10 ^ k
  | 0, l, h, _ => by
    obtain rfl := List.eq_nil_of_length_eq_zero h
    simp [vt]
  | k + 1, l, h, hd => by
    have hne : l ≠ [] := by intro e; rw [e] at h; simp at h
    have e := (List.dropLast_concat_getLast hne).symm
    have ih := vt_bound k l.dropLast (by simp [h]) (fun c hc => hd c ((List.dropLast_sublist l).subset hc))
    have hc := hd (l.getLast hne) (List.getLast_mem hne)
    rw [e, vt_snoc]
    rw [Int.pow_succ]
    omega

theorem ret_two {a b : Int} (h : a = b) : Ending.returned (.tuple #[.int .i64 a, .bool true]) = .returned (.tuple #[.int .i64 b, .bool true]) := by rw [h]

theorem take_snoc (s : ByteArray) (k : Nat) (h : k < s.size) : s.data.toList.take (k + 1) = s.data.toList.take k ++ [s[k]] := by
  rw [List.take_succ_eq_append_getElem (by simpa using h)]; rfl

set_option maxHeartbeats 1000000 in
theorem read_core (s : ByteArray) (w : World) (h1 : 9 ≤ s.size) (h2 : s.size ≤ 11) (hp : (s.extract 0 7).toList = [83, 116, 97, 116, 117, 115, 40])
    (hl : (((s[s.size - 1]'(by omega)).toNat : Int) != 41) = false) (d : ByteArray) (hd : Hid (s.extract 7 (s.size - 1) = d)) (hd0 : 0 < d.size) (hk3 : d.size ≤ 3)
    (hz : 1 < d.size → (((d[0]'(by omega)).toNat : Int) == 48) = false) (hdig : Dig d.data.toList) :
    Calls Tryd.prog 8 #[.string s] w fun r w' => r = .returned (.tuple #[.int .i64 (vt d.data.toList), .bool true]) ∧ w' = w := by
  have HD : Hid (.string (s.extract 7 (s.size - 1)) = Value.string d) := (show _ = _ by rw [hd.out])
  have HZ : Hid (1 < d.size → (((d[0]'(by omega)).toNat : Int) == 48) = false) := hz
  clear hd hz
  go_enter Tryd.func8, Tryd.ntmps8
  go_upto_region 5 with (fail)
  go_cut [4] (fun s4 wr => s4 = .string d ∧ wr = w)
  case first =>
    go_wp2
    go_meet
    case rel => exact ⟨HD.out, rfl⟩
  case rest =>
    obtain ⟨rfl, rfl⟩ := hcut
    clear hp hl HD
    by_cases hm : 1 < d.size
    · have hz' := HZ.out hm
      clear HZ
      go_wp2
      go_loop [5, 6] (fun n i => ∃ k : Nat, k ≤ d.size ∧ i = .int .i64 k ∧ n = .int .i64 (vt (d.data.toList.take k))) (fun _ i => d.size - (intOf i).toNat)
      case atStart => exact ⟨0, Nat.zero_le _, rfl, rfl⟩
      case round =>
        obtain ⟨k, hk, rfl, rfl⟩ := hrel
        by_cases hlt : k < d.size
        · have hb := vt_bound k (d.data.toList.take k) (by simp; omega) (fun c hc => hdig c (List.mem_of_mem_take hc))
          have hb2 : vt (d.data.toList.take k) < 1000 := by
            have : (10 : Int) ^ k ≤ 1000 := by
              have h3 : k = 0 ∨ k = 1 ∨ k = 2 := by omega
              rcases h3 with rfl | rfl | rfl <;> decide
            omega
          have hc := hdig (d[k]) (by rw [Array.mem_toList_iff]; exact Array.getElem_mem _)
          have HS : Hid (vt (d.data.toList.take (k + 1)) = vt (d.data.toList.take k) * 10 + ((d[k].toNat : Int) - 48)) :=
            (show _ = _ by rw [take_snoc d k hlt, vt_snoc])
          obtain ⟨hb1, _⟩ := hb
          obtain ⟨hc1, hc2⟩ := hc
          clear hdig
          go_wp2
          go_round
          case rel => exact ⟨k + 1, by omega, by go_num, by rw [HS.out]⟩
          case measure => simp [intOf]; omega
        · go_wp2
          go_ret2
          exact ⟨ret_two (congrArg vt (List.take_of_length_le (by simp; omega))), rfl⟩
    · clear HZ
      go_wp2
      go_loop [5, 6] (fun n i => ∃ k : Nat, k ≤ d.size ∧ i = .int .i64 k ∧ n = .int .i64 (vt (d.data.toList.take k))) (fun _ i => d.size - (intOf i).toNat)
      case atStart => exact ⟨0, Nat.zero_le _, rfl, rfl⟩
      case round =>
        obtain ⟨k, hk, rfl, rfl⟩ := hrel
        by_cases hlt : k < d.size
        · have hb := vt_bound k (d.data.toList.take k) (by simp; omega) (fun c hc => hdig c (List.mem_of_mem_take hc))
          have hb2 : vt (d.data.toList.take k) < 1000 := by
            have : (10 : Int) ^ k ≤ 1000 := by
              have h3 : k = 0 ∨ k = 1 ∨ k = 2 := by omega
              rcases h3 with rfl | rfl | rfl <;> decide
            omega
          have hc := hdig (d[k]) (by rw [Array.mem_toList_iff]; exact Array.getElem_mem _)
          have HS : Hid (vt (d.data.toList.take (k + 1)) = vt (d.data.toList.take k) * 10 + ((d[k].toNat : Int) - 48)) :=
            (show _ = _ by rw [take_snoc d k hlt, vt_snoc])
          obtain ⟨hb1, _⟩ := hb
          obtain ⟨hc1, hc2⟩ := hc
          clear hdig
          go_wp2
          go_round
          case rel => exact ⟨k + 1, by omega, by go_num, by rw [HS.out]⟩
          case measure => simp [intOf]; omega
        · go_wp2
          go_ret2
          exact ⟨ret_two (congrArg vt (List.take_of_length_le (by simp; omega))), rfl⟩

/-- isLowerWord at a word of lowercase letters -/
theorem ba_mem (d : ByteArray) (k : Nat) (h : k < d.size) : d[k] ∈ d.data.toList := by rw [Array.mem_toList_iff]; exact Array.getElem_mem _

set_option maxHeartbeats 400000 in
theorem lower_any (s : ByteArray) (w : World) (h0 : 0 < s.size) (hm : s.size ≤ 100) (hall : ∀ c ∈ s.data.toList, 97 ≤ c.toNat ∧ c.toNat ≤ 122) :
    Calls Tryd.prog 7 #[.string s] w fun r w' => r = .returned (.bool true) ∧ w' = w := by
  go_enter Tryd.func7, Tryd.ntmps7
  go_wp2
  go_loop [3] (fun i => ∃ k : Nat, k ≤ s.size ∧ i = .int .i64 k) (fun i => s.size - (intOf i).toNat)
  case atStart => exact ⟨0, Nat.zero_le _, rfl⟩
  case round =>
    obtain ⟨k, hk, rfl⟩ := hrel
    by_cases hlt : k < s.size
    · have hc := hall (s[k]) (ba_mem s k hlt)
      clear hall
      obtain ⟨hc1, hc2⟩ := hc
      go_wp2
      go_round
      case rel => exact ⟨k + 1, by omega, by go_num⟩
      case measure => simp [intOf]; omega
    · go_wp2
      go_ret
      exact ⟨rfl, rfl⟩

end Go.Proofs.Qxb6617857aDoor
