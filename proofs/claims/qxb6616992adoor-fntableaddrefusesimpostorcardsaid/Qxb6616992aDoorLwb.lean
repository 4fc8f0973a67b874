import Derived.Test.Qxb6616992aDoorCut
namespace Go.Proofs.Qxb6616992aDoor
open Go.RowKit

/-- the world in which the law's body begins -/
def lawW (w : World) (own id : List Int) (i1 i2 : List Value) : World :=
  (((w.alloc (.cells (C own).toArray 22)).alloc (.cells (C id).toArray 22)).alloc (.cells i1.toArray 23)).alloc (.cells i2.toArray 23)
theorem lawW_bw (w : World) (own id : List Int) (i1 i2 : List Value) : BW w (lawW w own id i1 i2) := (BW.new _ _).then ((BW.new _ _).then ((BW.new _ _).then (BW.new _ _)))
theorem lawW_size (w : World) (own id : List Int) (i1 i2 : List Value) : (lawW w own id i1 i2).heap.size = w.heap.size + 4 := by simp [lawW]
theorem lawW_own (w : World) (own id : List Int) (i1 i2 : List Value) : (lawW w own id i1 i2).rangeAt w.heap.size 0 (C own) := (BW.new _ _).range ((BW.new _ _).range ((BW.new _ _).range (range_new w (C own) 22)))
theorem lawW_id (w : World) (own id : List Int) (i1 i2 : List Value) : (lawW w own id i1 i2).rangeAt (w.heap.size + 1) 0 (C id) := by
  have h := (BW.new _ (.cells i2.toArray 23)).range ((BW.new _ (.cells i1.toArray 23)).range (range_new (w.alloc (.cells (C own).toArray 22)) (C id) 22))
  have e : (w.alloc (.cells (C own).toArray 22)).heap.size = w.heap.size + 1 := by simp
  rw [e] at h
  exact h
theorem lawW_i1 (w : World) (own id : List Int) (i1 i2 : List Value) : (lawW w own id i1 i2).rangeAt (w.heap.size + 1 + 1) 0 i1 := by
  have h := (BW.new _ (.cells i2.toArray 23)).range (range_new ((w.alloc (.cells (C own).toArray 22)).alloc (.cells (C id).toArray 22)) i1 23)
  have e : ((w.alloc (.cells (C own).toArray 22)).alloc (.cells (C id).toArray 22)).heap.size = w.heap.size + 1 + 1 := by simp
  rw [e] at h
  exact h
theorem lawW_i2 (w : World) (own id : List Int) (i1 i2 : List Value) : (lawW w own id i1 i2).rangeAt (w.heap.size + 1 + 1 + 1) 0 i2 := by
  have h := range_new (((w.alloc (.cells (C own).toArray 22)).alloc (.cells (C id).toArray 22)).alloc (.cells i1.toArray 23)) i2 23
  have e : (((w.alloc (.cells (C own).toArray 22)).alloc (.cells (C id).toArray 22)).alloc (.cells i1.toArray 23)).heap.size = w.heap.size + 1 + 1 + 1 := by simp
  rw [e] at h
  exact h

end Go.Proofs.Qxb6616992aDoor
