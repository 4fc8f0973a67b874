import Derived.Test.Qxb6616754aRows
import Derived.WalkKit
import Derived.WalkSpells
import Derived.WalkLawsBesides
namespace Go.Proofs.Qxb6616754a
open Go.RowKit

def RetBool (e : Ending) : Prop := ∃ x : Bool, e = .returned (.bool x)

set_option maxHeartbeats 400000 in
theorem zzBytes3_any (a : ByteArray) (b : Bool) (c d : ByteArray) (w : World) :
    Calls Try.prog 5 #[.string a, .bool b, .string c, .string d] w fun r w' => RetBool r ∧ w' = w := by
  go_enter Try.func5, Try.ntmps5
  go_wp2
  all_goals go_ret
  all_goals exact ⟨⟨_, rfl⟩, rfl⟩

set_option maxHeartbeats 400000 in
theorem zzBytes4_any (a : ByteArray) (b : Bool) (c : ByteArray) (w : World) :
    Calls Try.prog 8 #[.string a, .bool b, .string c] w fun r w' => RetBool r ∧ w' = w := by
  go_enter Try.func8, Try.ntmps8
  go_wp2
  all_goals go_ret
  all_goals exact ⟨⟨_, rfl⟩, rfl⟩

/-- At block h lies an entry of group g, deleted or not. -/
structure Ent (w : World) (h : Nat) (g : ByteArray) (b : Bool) : Prop where
  grp : w.cell? ⟨h, 11, none⟩ = some (.string g)
  del : w.cell? ⟨h, 12, none⟩ = some (.bool b)

theorem Ent.next {w w' : World} {h : Nat} {g : ByteArray} {b : Bool} (e : Ent w h g b) (hb : Below w.heap.size w w') : Ent w' h g b :=
  ⟨(hb.cell (World.block_lt_of_cell? w _ e.grp)).trans e.grp, (hb.cell (World.block_lt_of_cell? w _ e.del)).trans e.del⟩

set_option maxHeartbeats 400000 in
theorem newEntry_any (g : ByteArray) (b : Bool) (w : World) :
    Calls Try.prog 6 #[.string g, .bool b] w fun r w' => ∃ h, r = .returned (.pointer (some ⟨h, 0, none⟩)) ∧ Ent w' h g b ∧ Below w.heap.size w w' := by
  go_enter Try.func6, Try.ntmps6
  go_wp2
  go_ret
  exact ⟨w.heap.size, rfl, ⟨by simp, by simp⟩, (Below.refl _ _).alloc (Nat.le_refl _) _⟩

/-- the plain function -/
def dl (g : ByteArray) (b : Bool) (q : ByteArray) : Bool := !b && (g.toList.isEmpty || g.toList == q.toList)

theorem ret_bool {a b : Bool} (h : a = b) : Ending.returned (.bool a) = .returned (.bool b) := by rw [h]

set_option maxHeartbeats 400000 in
theorem deliveredIn_any (h : Nat) (g : ByteArray) (b : Bool) (q : ByteArray) (w : World) (he : Ent w h g b) :
    Calls Try.prog 9 #[.pointer (some ⟨h, 0, none⟩), .string q] w fun r w' => r = .returned (.bool (dl g b q)) ∧ w' = w := by
  obtain ⟨h1, h2⟩ := he
  cases b
  · cases hg : g.toList.isEmpty
    · go_enter Try.func9, Try.ntmps9
      go_wp2
      go_ret
      exact ⟨ret_bool (by simp [dl, hg]), rfl⟩
    · go_enter Try.func9, Try.ntmps9
      go_wp2
      go_ret
      exact ⟨ret_bool (by simp [dl, hg]), rfl⟩
  · go_enter Try.func9, Try.ntmps9
    go_wp2
    go_ret
    exact ⟨ret_bool (by simp [dl]), rfl⟩

set_option maxHeartbeats 400000 in
theorem zzDel_any (h : Nat) (g : ByteArray) (b : Bool) (q : ByteArray) (w : World) (he : Ent w h g b) (x : Bool) (hx : dl g b q = x) :
    Calls Try.prog 7 #[.pointer (some ⟨h, 0, none⟩), .string q] w fun r w' => r = .returned (.bool x) ∧ w' = w := by
  subst hx
  go_enter Try.func7, Try.ntmps7
  go_wp2_with fail
  refine (deliveredIn_any h g b q _ he).mono ?_
  rintro r w1 ⟨rfl, hw⟩
  obtain rfl : w = w1 := hw.symm
  go_wp2
  go_ret
  exact ⟨rfl, rfl⟩

end Go.Proofs.Qxb6616754a
