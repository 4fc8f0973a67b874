import Derived.Test.Qxb6616992aDoorBkt
import Derived.Laws.StructEq
namespace Go.Proofs.Qxb6616992aDoor
open Go.RowKit

theorem all_range_eqI : ∀ (xs ys : List Int), xs.length = ys.length → ((List.range xs.length).all fun i => nthI xs i == nthI ys i) = (xs == ys)
  | [], [], _ => rfl
  | x :: xs, y :: ys, h => by
    have ih := all_range_eqI xs ys (by simpa using h)
    rw [List.length_cons, List.range_succ_eq_map, List.all_cons, List.all_map]
    simp only [nthI, Function.comp_def, List.getD_cons_succ, List.getD_cons_zero] at ih ⊢
    rw [ih]
    simp [List.cons_beq_cons]
  | [], _ :: _, h => by simp at h
  | _ :: _, [], h => by simp at h

theorem equalIn_C {P : Program} (w : World) (d : Nat) (t e : TypeId) (n : Nat) (ht : P.underlying t = some (.array n e)) (he : P.underlying e = some (.int .u8)) (hsz : ∀ w, (sizeOf e).run P w = .ok 1 w)
    (xs ys : List Int) (hx : xs.length = n) (hy : ys.length = n) :
    (Op.equalIn (d + 2) t (.agg (C xs).toArray) (.agg (C ys).toArray)).run P w = .ok (xs == ys) w := by
  rw [← all_range_eqI xs ys (hx.trans hy.symm), hx, List.range_eq_range', Op.equalIn]
  simp only [Sem.run_bind, run_underlying ht, Result.andThen_ok, hsz, Std.Legacy.Range.forIn_eq_forIn_range', Std.Legacy.Range.size, Nat.sub_zero, Nat.add_sub_cancel, Nat.div_one]
  have hl : ∀ i ∈ List.range' 0 n 1, i < n := fun i hi => by simpa using (List.mem_range'_1.1 hi).2
  generalize List.range' 0 n 1 = l at hl ⊢
  induction l with
  | nil => simp
  | cons i l ih =>
    have hi : i < n := hl i (by simp)
    have px : (part e (C xs).toArray (i * 1)).run P w = .ok (.int .u8 (nthI xs i)) w := by
      simp [part, isAgg, run_underlying he, C_at xs i (by omega)]
    have py : (part e (C ys).toArray (i * 1)).run P w = .ok (.int .u8 (nthI ys i)) w := by
      simp [part, isAgg, run_underlying he, C_at ys i (by omega)]
    have pe : (Op.equalIn (d + 1) e (.int .u8 (nthI xs i)) (.int .u8 (nthI ys i))).run P w = .ok (nthI xs i == nthI ys i) w := run_equalIn_int w d e .u8 .u8 _ _ he
    simp only [List.forIn_cons, Sem.run_bind, px, py, pe, Result.andThen_ok, List.all_cons]
    cases hb : (nthI xs i == nthI ys i)
    · simp
    · simp only [Bool.not_true, Bool.false_eq_true, if_false, Sem.run_pure, Result.andThen_ok, Bool.true_and]
      exact ih fun j hj => hl j (by simp [hj])

theorem size5 : ∀ w, (sizeOf 5).run Tryd.prog w = .ok 1 w := fun w => by kernel_rfl

theorem eql27 (xs ys : List Int) (hx : xs.length = 20) (hy : ys.length = 20) (w : World) :
    (binOp .eql 27 (.agg (C xs).toArray) (.agg (C ys).toArray)).run Tryd.prog w = .ok (.bool (xs == ys)) w := by
  rw [run_eql_struct, equalIn_C w 9998 27 5 20 Tryd.underlying27 Tryd.underlying5 size5 xs ys hx hy]
  rfl

theorem eql22 (xs ys : List Int) (hx : xs.length = 20) (hy : ys.length = 20) (w : World) :
    (binOp .eql 22 (.agg (C xs).toArray) (.agg (C ys).toArray)).run Tryd.prog w = .ok (.bool (xs == ys)) w := by
  rw [run_eql_struct, equalIn_C w 9998 22 5 20 Tryd.underlying22 Tryd.underlying5 size5 xs ys hx hy]
  rfl

theorem eql23 (xs ys : List Int) (hx : xs.length = 4) (hy : ys.length = 4) (w : World) :
    (binOp .eql 23 (.agg (C xs).toArray) (.agg (C ys).toArray)).run Tryd.prog w = .ok (.bool (xs == ys)) w := by
  rw [run_eql_struct, equalIn_C w 9998 23 5 4 Tryd.underlying23 Tryd.underlying5 size5 xs ys hx hy]
  rfl

theorem range_left {w : World} {b o : Nat} {xs ys : List Value} (h : w.rangeAt b o (xs ++ ys)) : w.rangeAt b o xs := fun j v hv =>
  h j v (by rw [List.getElem?_append_left (List.getElem?_eq_some_iff.1 hv).1]; exact hv)
theorem range_right {w : World} {b o : Nat} {xs ys : List Value} (h : w.rangeAt b o (xs ++ ys)) : w.rangeAt b (o + xs.length) ys := fun j v hv => by
  have := h (xs.length + j) v (by rw [List.getElem?_append_right (by omega)]; simpa using hv)
  rw [show o + xs.length + j = o + (xs.length + j) by omega]; exact this

set_option maxRecDepth 100000 in
set_option maxHeartbeats 1000000 in
/-- the closure: has this entry the name? -/
theorem same_any (p : Nat) (id : List Int) (r : List Value) (w : World) (hid : id.length = 20) (hp : w.rangeAt p 0 (C id)) :
    Calls Tryd.prog 32 #[.agg (C id ++ r).toArray, .pointer (some ⟨p, 0, none⟩)] w fun e w' => e = .returned (.bool true) ∧ Below w.heap.size w w' := by
  have hu := Tryd.underlying27
  have hi := size27 hid
  have r1 := range_left (range_new w (C id ++ r) 66)
  have hb1 : Below w.heap.size w (w.alloc (.cells (C id ++ r).toArray 66)) := (Below.refl _ _).alloc (Nat.le_refl _) _
  have r2 := range_below hp hb1
  have he := eql27 id id hid hid
  rw [beq_self_eq_true] at he
  go_enter Tryd.func32, Tryd.ntmps32
  generalize C id ++ r = cs at r1 hb1 r2 ⊢
  go_wp2_with (with_reducible refine wpList_load_mid rfl _ _ rfl _ _ rfl _ _ (by assumption) hu rfl hi ?_)
  go_ret
  exact ⟨rfl, hb1⟩

end Go.Proofs.Qxb6616992aDoor
