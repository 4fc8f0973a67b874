import Derived.Test.Qxb6616992aDoorTime
import Derived.Test.Qxb6616992aDoorShelf
import Derived.Deep.RegionHeld3
namespace Go.Proofs.Qxb6616992aDoor
open Go.RowKit

/-- the cells of an array of bytes -/
def C (xs : List Int) : List Value := xs.map (Value.int .u8)
def nthI (xs : List Int) (j : Nat) : Int := xs.getD j 0
theorem C_len (xs : List Int) : (C xs).length = xs.length := by simp [C]

theorem C_at (xs : List Int) (k : Nat) (h : k < xs.length) : (C xs)[k]? = some (.int .u8 (nthI xs k)) := by
  simp [C, nthI, h]

theorem xor_bound (a b : Int) : 0 ≤ bits .xor .u8 a b ∧ bits .xor .u8 a b ≤ 255 := by
  unfold bits
  rw [IntKind.wrap_u8]
  omega

/-- how many leading bits two names share, from byte k on, in so many bytes -/
def prefFrom (xs ys : List Int) : Nat → Nat → Int
  | 0, _ => 160
  | f + 1, k => if bits .xor .u8 (nthI xs k) (nthI ys k) = 0 then prefFrom xs ys f (k + 1) else 8 * (k : Int) + (8 - (Lib.bitLen (bits .xor .u8 (nthI xs k) (nthI ys k)).toNat : Int))
def pref (xs ys : List Int) : Int := prefFrom xs ys 20 0

theorem prefFrom_nonneg (xs ys : List Int) : ∀ f k, 0 ≤ prefFrom xs ys f k
  | 0, _ => by simp [prefFrom]
  | f + 1, k => by
    have hb := xor_bound (nthI xs k) (nthI ys k)
    have hbl := bitLen_le (bits .xor .u8 (nthI xs k) (nthI ys k)).toNat (by omega)
    unfold prefFrom
    split
    · exact prefFrom_nonneg xs ys f (k + 1)
    · omega
theorem pref_nonneg (xs ys : List Int) : 0 ≤ pref xs ys := prefFrom_nonneg xs ys 20 0

set_option maxHeartbeats 1000000 in
theorem prefix_any (xs ys : List Int) (w : World) (hx : Hid (xs.length = 20)) (hy : Hid (ys.length = 20)) :
    Calls Tryd.prog 30 #[.agg (C xs).toArray, .agg (C ys).toArray] w fun e w' => e = .returned (.int .i64 (pref xs ys)) ∧ Below w.heap.size w w' := by
  go_enter Tryd.func30, Tryd.ntmps30
  go_wp2
  go_loopw [7] (fun i wr => ∃ k q : Nat, k ≤ 20 ∧ Hid (prefFrom xs ys (20 - k) k = pref xs ys) ∧ i = .int .i64 k ∧ wr = ((w.alloc (Obj.cells (C xs).toArray 27)).alloc (Obj.cells (C ys).toArray 27)).drewN q) (fun i _ => 20 - (intOf i).toNat)
  case atStart => exact ⟨0, 0, Nat.zero_le _, rfl, rfl, rfl⟩
  case round =>
    obtain ⟨k, q, hk, hp, rfl, rfl⟩ := hrel
    by_cases hlt : k < 20
    · have c1 := C_at xs k (by rw [hx.out]; exact hlt)
      have c2 := C_at ys k (by rw [hy.out]; exact hlt)
      have hb := xor_bound (nthI xs k) (nthI ys k)
      have hp2 : Hid ((if bits .xor .u8 (nthI xs k) (nthI ys k) = 0 then prefFrom xs ys (20 - (k + 1)) (k + 1) else 8 * (k : Int) + (8 - (Lib.bitLen (bits .xor .u8 (nthI xs k) (nthI ys k)).toNat : Int))) = pref xs ys) := by
        have h := hp.out
        rw [show 20 - k = (20 - (k + 1)) + 1 by omega, prefFrom] at h
        exact h
      clear hp
      by_cases hz : bits .xor .u8 (nthI xs k) (nthI ys k) = 0
      · have hp3 : Hid (prefFrom xs ys (20 - (k + 1)) (k + 1) = pref xs ys) := by have h := hp2.out; rw [if_pos hz] at h; exact h
        clear hp2
        go_wp2
        go_quiet (fail)
        go_wp2
        go_roundw
        case rel => exact ⟨k + 1, _, by omega, hp3, by go_num, rfl⟩
        case measure => simp [intOf]; omega
      · have hp3 : Hid (8 * (k : Int) + (8 - (Lib.bitLen (bits .xor .u8 (nthI xs k) (nthI ys k)).toNat : Int)) = pref xs ys) := by have h := hp2.out; rw [if_neg hz] at h; exact h
        clear hp2
        go_wp2
        go_quiet (fail)
        go_wp2_with fail
        have hbl := bitLen_le (bits .xor .u8 (nthI xs k) (nthI ys k)).toNat (by omega)
        refine (lz8_any _ _ hb.1 hb.2).mono ?_
        rintro e w1 ⟨rfl, hw⟩
        subst hw
        have hp4 := hp3
        generalize Lib.bitLen (bits .xor .u8 (nthI xs k) (nthI ys k)).toNat = L at hbl hp4 ⊢
        go_wp2
        go_ret
        exact ⟨by rw [← hp4.out]; rfl, below_drewN (((Below.refl _ _).alloc (Nat.le_refl _) _).alloc (by simp) _) _⟩
    · have h20 : k = 20 := by omega
      subst h20
      go_wp2
      go_ret
      exact ⟨by rw [← hp.out]; rfl, below_drewN (((Below.refl _ _).alloc (Nat.le_refl _) _).alloc (by simp) _) _⟩

end Go.Proofs.Qxb6616992aDoor
