import Derived.Test.Qxb6616992aDoorEnt
import Derived.Great.BuildSlice
namespace Go.Proofs.Qxb6616992aDoor
open Go.RowKit

theorem listOf20 {p : List Int → Prop} (h : ∀ a0 a1 a2 a3 a4 a5 a6 a7 a8 a9 a10 a11 a12 a13 a14 a15 a16 a17 a18 a19 : Int, p [a0, a1, a2, a3, a4, a5, a6, a7, a8, a9, a10, a11, a12, a13, a14, a15, a16, a17, a18, a19]) : ∀ xs : List Int, xs.length = 20 → p xs
  | [a0, a1, a2, a3, a4, a5, a6, a7, a8, a9, a10, a11, a12, a13, a14, a15, a16, a17, a18, a19], _ => h a0 a1 a2 a3 a4 a5 a6 a7 a8 a9 a10 a11 a12 a13 a14 a15 a16 a17 a18 a19

/-- an entry's cells behind the name -/
def ER (l : Int) (z : Addr) (p : Int) (t1 t2 : Int) (f : Int) : List Value := AP l z p ++ [.int .u64 t1, .int .i64 t2, .pointer none, .int .i64 f]
/-- the zero contact's cells -/
def CZ : List Value := C (List.replicate 20 0) ++ [.int .u64 0, .int .u64 0, .pointer none, .int .u16 0]

set_option maxRecDepth 100000 in
theorem build39 (id : List Int) (hid : id.length = 20) (l : Int) (z : Addr) (p : Int) (w : World) :
    (Instr.build 39 #[(0, .agg (C id).toArray), (1, .agg (AP l z p).toArray)]).run Tryd.prog w = .ok (.agg (C id ++ AP l z p).toArray) w :=
  run_build w 39 _ _ (listOf20 (p := fun id => Tryd.prog.built 39 [(0, .agg (C id).toArray), (1, .agg (AP l z p).toArray)] = some (C id ++ AP l z p).toArray) (by intros; kernel_rfl) id hid)

set_option maxRecDepth 100000 in
theorem build66 (id : List Int) (hid : id.length = 20) (l : Int) (z : Addr) (p t1 t2 : Int) (w : World) :
    (Instr.build 66 #[(0, .agg (C id ++ AP l z p).toArray), (1, .agg #[.int .u64 t1, .int .i64 t2, .pointer none]), (2, .int .i64 0)]).run Tryd.prog w = .ok (.agg (C id ++ ER l z p t1 t2 0).toArray) w :=
  run_build w 66 _ _ (listOf20 (p := fun id => Tryd.prog.built 66 [(0, .agg (C id ++ AP l z p).toArray), (1, .agg #[.int .u64 t1, .int .i64 t2, .pointer none]), (2, .int .i64 0)] = some (C id ++ ER l z p t1 t2 0).toArray) (by intros; kernel_rfl) id hid)

set_option maxRecDepth 100000 in
theorem build58 (own : List Int) (hl : own.length = 20) (k : Int) (s : Option Addr) (n c : Nat) (w : World) :
    (Instr.build 58 #[(0, .agg (C own).toArray), (1, .int .i64 k), (2, .slice s n c)]).run Tryd.prog w = .ok (.agg (C own ++ ([.int .i64 k, .slice s n c] : List Value)).toArray) w :=
  run_build w 58 _ _ (listOf20 (p := fun own => Tryd.prog.built 58 [(0, .agg (C own).toArray), (1, .int .i64 k), (2, .slice s n c)] = some (C own ++ ([.int .i64 k, .slice s n c] : List Value)).toArray) (by intros; kernel_rfl) own hl)

set_option maxRecDepth 100000 in
theorem build0 (w : World) : (Instr.build 39 #[]).run Tryd.prog w = .ok (.agg CZ.toArray) w := run_build w 39 _ _ (by kernel_rfl)

/-- the zero entry's cells -/
def EZ : List Value := C (List.replicate 20 0) ++ [.int .u64 0, .int .u64 0, .pointer none, .int .u16 0, .int .u64 0, .int .i64 0, .pointer none, .int .i64 0]
set_option maxRecDepth 100000 in
theorem info66m : (Tryd.prog.info? 66).map (fun i => (i.zero, i.size, i.bytes)) = some (some (.agg EZ.toArray), 28, 88) := by kernel_rfl
theorem info66 : ∃ i, Tryd.prog.info? 66 = some i ∧ i.zero = some (.agg EZ.toArray) ∧ i.size = 28 ∧ i.bytes = 88 := by
  have h := info66m
  cases hi : Tryd.prog.info? 66 with
  | none => rw [hi] at h; cases h
  | some i =>
    rw [hi] at h
    simp only [Option.map_some, Option.some.injEq, Prod.mk.injEq] at h
    exact ⟨i, rfl, h.1, h.2.1, h.2.2⟩

set_option maxRecDepth 100000 in
theorem bs53 (id : List Int) (hid : id.length = 20) (l : Int) (z : Addr) (p t1 t2 f : Int) (w : World) :
    (Instr.buildSlice 53 1 #[(0, .agg (C id ++ ER l z p t1 t2 f).toArray)]).run Tryd.prog w = .ok (.slice (some ⟨w.heap.size, 0, none⟩) 1 1) (w.alloc (.cells (C id ++ ER l z p t1 t2 f).toArray 66)) := by
  obtain ⟨i, hi, hz, hs, _⟩ := info66
  refine run_buildSlice w 53 66 1 _ _ i _ Tryd.underlying53 hi hz (by rw [hs]; decide) (by rw [hs]; decide) ?_
  rw [hs]
  exact listOf20 (p := fun id => Instr.fill (fun i => some (i * 28, 28)) ((Array.range (1 * 28)).map ((Value.agg EZ.toArray).cells[· % (Value.agg EZ.toArray).cells.size]!)) [(0, .agg (C id ++ ER l z p t1 t2 f).toArray)] = some (C id ++ ER l z p t1 t2 f).toArray) (by intros; kernel_rfl) id hid

end Go.Proofs.Qxb6616992aDoor
