import Derived.Test.Qxb6617857aOrd
namespace Go.Proofs.Qxb6617857a
open Go.RowKit

/-- Element j of a list of strings. -/
def nth (l : List ByteArray) (j : Nat) : ByteArray := l.getD j ByteArray.empty

/-- The slice at the address 'ao' holds the strings l. -/
def SV (w : World) (ao : Option Addr) (l : List ByteArray) : Prop :=
  ∀ j, j < l.length → ∃ b off, ao = some ⟨b, off, none⟩ ∧ w.cell? ⟨b, off + j, none⟩ = some (.string (nth l j))

/-- some bool is returned -/
def RetBool (e : Ending) : Prop := ∃ x : Bool, e = .returned (.bool x)
/-- a bool is returned that is true just if p -/
def RetIff (e : Ending) (p : Prop) : Prop := ∃ x : Bool, e = .returned (.bool x) ∧ (x = true ↔ p)

set_option maxHeartbeats 400000 in
theorem stringBytes_any (ao : Option Addr) (n c : Nat) (l : List ByteArray) (t : Int) (w : World) (hn : Hid (l.length = n)) (hl : n ≤ 1048576) (hs : SV w ao l) :
    Calls Try.prog 8 #[.slice ao n c, .int .i64 t] w fun e w' => (∃ n, e = .returned (.int .i64 n)) ∧ w' = w := by
  go_enter Try.func8, Try.ntmps8
  go_wp2
  go_loop [1, 5] (fun tt i => ∃ (k : Nat) (t' : Int), k ≤ n ∧ i = .int .i64 k ∧ tt = .int .i64 t') (fun _ i => n - (intOf i).toNat)
  case atStart => exact ⟨0, _, Nat.zero_le _, rfl, rfl⟩
  case round =>
    obtain ⟨k, t', hk, rfl, rfl⟩ := hrel
    by_cases hlt : k < n
    · obtain ⟨b, off, rfl, hc⟩ := hs k (by rw [hn.out]; exact hlt)
      clear hs
      go_wp2
      · go_ret
        exact ⟨⟨_, rfl⟩, rfl⟩
      · go_round
        case rel => exact ⟨k + 1, _, by omega, by go_num, rfl⟩
        case measure => simp [intOf]; omega
    · go_wp2
      go_ret
      exact ⟨⟨_, rfl⟩, rfl⟩


set_option maxHeartbeats 1000000 in
theorem zzBytes3_any (ao bo : Option Addr) (n m c d : Nat) (l k : List ByteArray) (w : World) (hn : Hid (l.length = n)) (hm : Hid (k.length = m)) (hs : SV w ao l) (ht : SV w bo k) :
    Calls Try.prog 7 #[.slice ao n c, .slice bo m d] w fun e w' => RetBool e ∧ w' = w := by
  by_cases hl : 1048576 < n
  · go_enter Try.func7, Try.ntmps7
    go_wp2
    go_ret
    exact ⟨⟨_, rfl⟩, rfl⟩
  go_enter Try.func7, Try.ntmps7
  go_wp2
  go_loop [5, 6] (fun tt i => ∃ (k : Nat) (t' : Int), k ≤ n ∧ i = .int .i64 k ∧ tt = .int .i64 t') (fun _ i => n - (intOf i).toNat)
  case atStart => exact ⟨0, _, Nat.zero_le _, rfl, rfl⟩
  case round =>
    obtain ⟨r, t', hk, rfl, rfl⟩ := hrel
    by_cases hlt : r < n
    · obtain ⟨b, off, rfl, hc⟩ := hs r (by rw [hn.out]; exact hlt)
      clear hs ht
      go_wp2
      · go_ret
        exact ⟨⟨_, rfl⟩, rfl⟩
      · go_ret
        exact ⟨⟨_, rfl⟩, rfl⟩
      · go_round
        case rel => exact ⟨r + 1, _, by omega, by go_num, rfl⟩
        case measure => simp [intOf]; omega
    · clear hs
      by_cases hl2 : 1048576 < m
      · go_wp2
        go_ret
        exact ⟨⟨_, rfl⟩, rfl⟩
      · go_wp2
        · go_ret
          exact ⟨⟨_, rfl⟩, rfl⟩
        · go_loop [5, 7] (fun tt i => ∃ (k : Nat) (t' : Int), k ≤ m ∧ i = .int .i64 k ∧ tt = .int .i64 t') (fun _ i => m - (intOf i).toNat)
          case atStart => exact ⟨0, _, Nat.zero_le _, rfl, rfl⟩
          case round =>
            obtain ⟨r2, t2, hk2, rfl, rfl⟩ := hrel
            by_cases hlt2 : r2 < m
            · obtain ⟨b, off, rfl, hc⟩ := ht r2 (by rw [hm.out]; exact hlt2)
              clear ht
              go_wp2
              · go_ret
                exact ⟨⟨_, rfl⟩, rfl⟩
              · go_ret
                exact ⟨⟨_, rfl⟩, rfl⟩
              · go_round
                case rel => exact ⟨r2 + 1, _, by omega, by go_num, rfl⟩
                case measure => simp [intOf]; omega
            · go_wp2
              go_ret
              exact ⟨⟨_, rfl⟩, rfl⟩

set_option maxHeartbeats 1000000 in
theorem zzBytes4_any (ao bo : Option Addr) (n m c d : Nat) (l k : List ByteArray) (w : World) (hn : Hid (l.length = n)) (hm : Hid (k.length = m)) (hs : SV w ao l) (ht : SV w bo k) :
    Calls Try.prog 13 #[.slice ao n c, .slice bo m d] w fun e w' => RetBool e ∧ w' = w := by
  by_cases hl : 1048576 < n
  · go_enter Try.func13, Try.ntmps13
    go_wp2
    go_ret
    exact ⟨⟨_, rfl⟩, rfl⟩
  go_enter Try.func13, Try.ntmps13
  go_wp2
  go_loop [5, 6] (fun tt i => ∃ (k : Nat) (t' : Int), k ≤ n ∧ i = .int .i64 k ∧ tt = .int .i64 t') (fun _ i => n - (intOf i).toNat)
  case atStart => exact ⟨0, _, Nat.zero_le _, rfl, rfl⟩
  case round =>
    obtain ⟨r, t', hk, rfl, rfl⟩ := hrel
    by_cases hlt : r < n
    · obtain ⟨b, off, rfl, hc⟩ := hs r (by rw [hn.out]; exact hlt)
      clear hs ht
      go_wp2
      · go_ret
        exact ⟨⟨_, rfl⟩, rfl⟩
      · go_ret
        exact ⟨⟨_, rfl⟩, rfl⟩
      · go_round
        case rel => exact ⟨r + 1, _, by omega, by go_num, rfl⟩
        case measure => simp [intOf]; omega
    · clear hs
      by_cases hl2 : 1048576 < m
      · go_wp2
        go_ret
        exact ⟨⟨_, rfl⟩, rfl⟩
      · go_wp2
        · go_ret
          exact ⟨⟨_, rfl⟩, rfl⟩
        · go_loop [5, 7] (fun tt i => ∃ (k : Nat) (t' : Int), k ≤ m ∧ i = .int .i64 k ∧ tt = .int .i64 t') (fun _ i => m - (intOf i).toNat)
          case atStart => exact ⟨0, _, Nat.zero_le _, rfl, rfl⟩
          case round =>
            obtain ⟨r2, t2, hk2, rfl, rfl⟩ := hrel
            by_cases hlt2 : r2 < m
            · obtain ⟨b, off, rfl, hc⟩ := ht r2 (by rw [hm.out]; exact hlt2)
              clear ht
              go_wp2
              · go_ret
                exact ⟨⟨_, rfl⟩, rfl⟩
              · go_ret
                exact ⟨⟨_, rfl⟩, rfl⟩
              · go_round
                case rel => exact ⟨r2 + 1, _, by omega, by go_num, rfl⟩
                case measure => simp [intOf]; omega
            · go_wp2
              go_ret
              exact ⟨⟨_, rfl⟩, rfl⟩

end Go.Proofs.Qxb6617857a
