import Derived.Test.Qxb6617857aRows
import Derived.WalkKit
import Derived.WalkSpells
import Derived.WalkLawsBesides
import Derived.Deep.QuietTactic
import Derived.BigQuiet
import Derived.Deep.RegionWith
namespace Go.Proofs.Qxb6617857a
open Go.RowKit

def bl (a b : ByteArray) : Bool := Op.bytesLess a.toList b.toList
def inR (s e p : ByteArray) : Bool := (bl s p || s.toList == p.toList) && (e.toList.isEmpty || bl p e)
def emp (s e : ByteArray) : Bool := !e.toList.isEmpty && !bl s e

theorem ret_bool {a b : Bool} (h : a = b) : Ending.returned (.bool a) = .returned (.bool b) := by rw [h]

set_option maxHeartbeats 400000 in
theorem inRange_any (s e p : ByteArray) (w : World) :
    Calls Try.prog 15 #[.string s, .string e, .string p] w fun r w' => r = .returned (.bool (inR s e p)) ∧ w' = w := by
  go_enter Try.func15, Try.ntmps15
  go_wp2
  all_goals go_ret
  all_goals refine ⟨ret_bool ?_, rfl⟩
  · have h1 : e.toList = [] := by assumption
    simp [inR, bl, h1]
  · rfl
  · have h1 : ¬(Op.bytesLess s.toList p.toList = true ∨ s.toList = p.toList) := by assumption
    simp only [not_or] at h1
    simp [inR, bl, h1]

set_option maxHeartbeats 400000 in
theorem empty_any (s e : ByteArray) (w : World) :
    Calls Try.prog 21 #[.agg #[.string s, .string e]] w fun r w' => r = .returned (.bool (emp s e)) ∧ w' = w.alloc (.cells #[.string s, .string e] 35) := by
  go_enter Try.func21, Try.ntmps21
  go_wp2
  all_goals go_ret
  all_goals refine ⟨ret_bool ?_, rfl⟩
  · have h1 : e.toList = [] := by assumption
    simp [emp, bl, h1]
  · rfl

set_option maxHeartbeats 400000 in
theorem pastKey_desc (o : Int) (p k : ByteArray) (w : World) (ho : (o == 1) = true) :
    Calls Try.prog 17 #[.int .u8 o, .string p, .string k] w fun r w' => r = .returned (.bool (bl p k)) ∧ w' = w := by
  go_enter Try.func17, Try.ntmps17
  go_wp2
  go_ret
  exact ⟨rfl, rfl⟩

set_option maxHeartbeats 400000 in
theorem pastKey_asc (o : Int) (p k : ByteArray) (w : World) (ho : (o == 1) = false) :
    Calls Try.prog 17 #[.int .u8 o, .string p, .string k] w fun r w' => r = .returned (.bool (!bl p k && !(p.toList == k.toList))) ∧ w' = w := by
  go_enter Try.func17, Try.ntmps17
  go_wp2
  go_ret
  exact ⟨rfl, rfl⟩

set_option maxHeartbeats 400000 in
theorem past_desc_nil (s e k : ByteArray) (w : World) (hk : k.toList.isEmpty = true) :
    Calls Try.prog 20 #[.agg #[.string s, .string e, .int .u8 1], .string k] w fun r w' => r = .returned (.tuple #[.agg #[.string s, .string e, .int .u8 1], .bool false]) ∧ Below w.heap.size w w' := by
  go_enter Try.func20, Try.ntmps20
  go_wp2
  exact bodyPost_ret (v := .tuple #[.agg #[.string s, .string e, .int .u8 1], .bool false]) (by simp [results, Try.results20, go_sem]) rfl ⟨rfl, ((Below.refl _ _).alloc (Nat.le_refl _) _).alloc (by simp) _⟩

set_option maxHeartbeats 400000 in
theorem past_desc (s e k : ByteArray) (w : World) (hk : k.toList.isEmpty = false) :
    Calls Try.prog 20 #[.agg #[.string s, .string e, .int .u8 1], .string k] w fun r w' => r = .returned (.tuple #[.agg #[.string s, .string k, .int .u8 1], .bool (!emp s k)]) ∧ Below w.heap.size w w' := by
  go_enter Try.func20, Try.ntmps20
  go_wp2_with fail
  go_region_with (go_at_call 21; refine (empty_any _ _ _).mono ?_; rintro e w' ⟨rfl, rfl⟩)
  all_goals go_wp2
  all_goals exact bodyPost_ret (v := .tuple #[.agg #[.string s, .string k, .int .u8 1], .bool (!emp s k)]) (by simp [results, Try.results20, go_sem]) rfl ⟨rfl, ((((Below.refl _ _).alloc (Nat.le_refl _) _).alloc (by simp) _).alloc (by simp; omega) _).drew⟩

set_option maxHeartbeats 400000 in
theorem past_asc (s e k : ByteArray) (o : Int) (w : World) (ho : (o == 1) = false) (hk : k.size ≤ 65536) :
    Calls Try.prog 20 #[.agg #[.string s, .string e, .int .u8 o], .string k] w fun r w' => r = .returned (.tuple #[.agg #[.string (k ++ ⟨#[0]⟩), .string e, .int .u8 o], .bool (!emp (k ++ ⟨#[0]⟩) e)]) ∧ Below w.heap.size w w' := by
  go_enter Try.func20, Try.ntmps20
  go_wp2_with fail
  go_region_with (go_at_call 21; refine (empty_any _ _ _).mono ?_; rintro e w' ⟨rfl, rfl⟩)
  all_goals go_wp2
  all_goals exact bodyPost_ret (v := .tuple #[.agg #[.string (k ++ ⟨#[0]⟩), .string e, .int .u8 o], .bool (!emp (k ++ ⟨#[0]⟩) e)]) (by simp [results, Try.results20, go_sem]) rfl ⟨rfl, ((((Below.refl _ _).alloc (Nat.le_refl _) _).alloc (by simp) _).alloc (by simp; omega) _).drew⟩

theorem bcell {W w1 : World} (hb : Below W.heap.size W w1) : (∀ b o, b < W.heap.size → w1.cell? ⟨b, o, none⟩ = W.cell? ⟨b, o, none⟩) ∧ (∀ b o, b < W.heap.size → w1.frozen? ⟨b, o, none⟩ = W.frozen? ⟨b, o, none⟩) :=
  ⟨fun b o h => hb.cell (p := ⟨b, o, none⟩) h, fun b o h => hb.frozen (p := ⟨b, o, none⟩) h⟩

set_option maxHeartbeats 400000 in
theorem zz_desc_nil (s e k : ByteArray) (w : World) (hk : k.toList.isEmpty = true) :
    Calls Try.prog 16 #[.string s, .string e, .int .u8 1, .string k] w fun r w' => r = .returned (.tuple #[.string s, .string e, .int .u8 1, .bool false]) ∧ Below w.heap.size w w' := by
  go_enter Try.func16, Try.ntmps16
  go_wp2_with fail
  refine (past_desc_nil _ _ _ _ hk).mono ?_
  rintro r w1 ⟨rfl, hb⟩
  go_wp2_with fail
  go_quiet (fail)
  go_wp2
  exact bodyPost_ret (v := .tuple #[.string s, .string e, .int .u8 1, .bool false]) (by simp [results, Try.results16, go_sem]) rfl ⟨rfl, below_drewN (hb.alloc hb.size _) _⟩

set_option maxHeartbeats 400000 in
theorem zz_desc (s e k : ByteArray) (w : World) (hk : k.toList.isEmpty = false) :
    Calls Try.prog 16 #[.string s, .string e, .int .u8 1, .string k] w fun r w' => r = .returned (.tuple #[.string s, .string k, .int .u8 1, .bool (!emp s k)]) ∧ Below w.heap.size w w' := by
  go_enter Try.func16, Try.ntmps16
  go_wp2_with fail
  refine (past_desc _ _ _ _ hk).mono ?_
  rintro r w1 ⟨rfl, hb⟩
  go_wp2_with fail
  go_quiet (fail)
  go_wp2
  exact bodyPost_ret (v := .tuple #[.string s, .string k, .int .u8 1, .bool (!emp s k)]) (by simp [results, Try.results16, go_sem]) rfl ⟨rfl, below_drewN (hb.alloc hb.size _) _⟩

set_option maxHeartbeats 400000 in
theorem zz_asc (s e k : ByteArray) (o : Int) (w : World) (ho : (o == 1) = false) (hk : k.size ≤ 65536) :
    Calls Try.prog 16 #[.string s, .string e, .int .u8 o, .string k] w fun r w' => r = .returned (.tuple #[.string (k ++ ⟨#[0]⟩), .string e, .int .u8 o, .bool (!emp (k ++ ⟨#[0]⟩) e)]) ∧ Below w.heap.size w w' := by
  go_enter Try.func16, Try.ntmps16
  go_wp2_with fail
  refine (past_asc _ _ _ _ _ ho hk).mono ?_
  rintro r w1 ⟨rfl, hb⟩
  go_wp2_with fail
  go_quiet (fail)
  go_wp2
  exact bodyPost_ret (v := .tuple #[.string (k ++ ⟨#[0]⟩), .string e, .int .u8 o, .bool (!emp (k ++ ⟨#[0]⟩) e)]) (by simp [results, Try.results16, go_sem]) rfl ⟨rfl, below_drewN (hb.alloc hb.size _) _⟩

set_option maxHeartbeats 400000 in
theorem zzBytes6_any (a b c d : ByteArray) (w : World) :
    Calls Try.prog 18 #[.string a, .string b, .string c, .string d] w fun r w' => ∃ x : Bool, r = .returned (.bool x) ∧ w' = w := by
  go_enter Try.func18, Try.ntmps18
  go_wp2
  all_goals go_ret
  all_goals exact ⟨_, rfl, rfl⟩

set_option maxHeartbeats 400000 in
theorem zzBytes5_any (a b : ByteArray) (o : Int) (c d e : ByteArray) (w : World) :
    Calls Try.prog 14 #[.string a, .string b, .int .u8 o, .string c, .string d, .string e] w fun r w' => ∃ x : Bool, r = .returned (.bool x) ∧ w' = w := by
  go_enter Try.func14, Try.ntmps14
  go_wp2
  all_goals go_ret
  all_goals exact ⟨_, rfl, rfl⟩

end Go.Proofs.Qxb6617857a
