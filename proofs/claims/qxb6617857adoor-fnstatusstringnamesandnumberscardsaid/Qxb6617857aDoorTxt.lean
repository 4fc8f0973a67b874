import Derived.Test.Qxb6617857aDoorRead
import Derived.Test.Qxb6617857aDoorShelf
namespace Go.Proofs.Qxb6617857aDoor
open Go.RowKit

def pre : List UInt8 := [83, 116, 97, 116, 117, 115, 40]
def dg (v : Nat) : List UInt8 := if v < 10 then [UInt8.ofNat (48 + v)] else if v < 100 then [UInt8.ofNat (48 + v / 10), UInt8.ofNat (48 + v % 10)] else [UInt8.ofNat (48 + v / 100), UInt8.ofNat (48 + v / 10 % 10), UInt8.ofNat (48 + v % 10)]

theorem itoa_dg (v : Nat) (h : v < 1000) : Lib.itoa (v : Int) = dg v := by
  unfold Lib.itoa
  rw [if_neg (by omega), Int.toNat_natCast]
  unfold dg
  by_cases h1 : v < 10
  · rw [if_pos h1, Lib.decDigits, dif_pos h1]
  · rw [if_neg h1, Lib.decDigits, dif_neg h1]
    by_cases h2 : v < 100
    · rw [if_pos h2, Lib.decDigits, dif_pos (by omega)]; rfl
    · rw [if_neg h2, Lib.decDigits, dif_neg (by omega), Lib.decDigits, dif_pos (by omega), Nat.div_div_eq_div_mul]; rfl

/-- the text of a status -/
def stx (v : Nat) : ByteArray :=
  if v = 0 then ⟨#[111, 107]⟩ else if v = 1 then ⟨#[114, 101, 118, 101, 114, 116]⟩ else if v = 2 then ⟨#[111, 111, 103]⟩ else ⟨(pre ++ dg v ++ [41]).toArray⟩

theorem dg_facts : ∀ v, v < 256 → vt (dg v) = (v : Int) ∧ (dg v).length ≤ 3 ∧ 1 ≤ (dg v).length ∧ (1 < (dg v).length → (dg v).head? ≠ some 48) := by decide +kernel
theorem dg_dig : ∀ v, v < 256 → Dig (dg v) := by
  have h : ∀ v, v < 256 → (dg v).all (fun c => decide (48 ≤ c.toNat ∧ c.toNat ≤ 57)) = true := by decide +kernel
  intro v hv c hc
  simpa using List.all_eq_true.1 (h v hv) c hc

theorem stx_list {v : Nat} (h : 3 ≤ v) : (stx v).data.toList = pre ++ dg v ++ [41] := by
  unfold stx
  rw [if_neg (by omega), if_neg (by omega), if_neg (by omega)]

theorem stx_inj {a b : Nat} (ha : a < 256) (hb : b < 256) (h : (stx a).toList = (stx b).toList) : a = b := by
  rw [ByteArray.toList_eq, ByteArray.toList_eq] at h
  have small : ∀ v, v < 3 → (stx v).data.toList.head? ≠ some 83 := by decide +kernel
  by_cases h1 : 3 ≤ a
  · by_cases h2 : 3 ≤ b
    · rw [stx_list h1, stx_list h2] at h
      have h' : dg a = dg b := by
        have := List.append_cancel_right h
        exact List.append_cancel_left this
      have e1 := (dg_facts a ha).1
      have e2 := (dg_facts b hb).1
      rw [h'] at e1
      omega
    · exfalso
      refine small b (by omega) ?_
      rw [← h, stx_list h1]; rfl
  · by_cases h2 : 3 ≤ b
    · exfalso
      refine small a (by omega) ?_
      rw [h, stx_list h2]; rfl
    · have key : ∀ a, a < 3 → ∀ b, b < 3 → (stx a).data.toList = (stx b).data.toList → a = b := by decide +kernel
      exact key a (by omega) b (by omega) h

theorem stx_beq {a b : Nat} (ha : a < 256) (hb : b < 256) : ((stx a).toList == (stx b).toList) = ((a : Int) == (b : Int)) := by
  by_cases h : a = b
  · subst h; simp
  · have h1 : (stx a).toList ≠ (stx b).toList := fun e => h (stx_inj ha hb e)
    have h2 : (a : Int) ≠ (b : Int) := by omega
    rw [beq_eq_false_iff_ne.2 h1, beq_eq_false_iff_ne.2 h2]

end Go.Proofs.Qxb6617857aDoor
