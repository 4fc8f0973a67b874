import Derived.Test.Qxb6616992aDoorLa1
import Derived.Test.Qxb6616992aDoorLa2
namespace Go.Proofs.Qxb6616992aDoor
open Go.RowKit

set_option linter.unusedSimpArgs false in
set_option maxRecDepth 100000 in
set_option maxHeartbeats 1000000 in
theorem law_any (own id : List Int) (k a b c d p1 a' b' c' d' p2 d1 d2 d3 : Int) (z : Addr) (w : World) (ho : own.length = 20) (hid : id.length = 20) (hz : w.cell? ⟨0, 0, none⟩ = some (.pointer (some z)))
    (ba : Byte a) (bb' : Byte b) (bc : Byte c) (bd : Byte d) (ba' : Byte a') (bb'' : Byte b') (bc' : Byte c') (bd' : Byte d') (hd1 : -9223372036854775808 ≤ d1 ∧ d1 ≤ 9223372036854775807) (hd2 : -9223372036854775808 ≤ d2 ∧ d2 ≤ 9223372036854775807) (hd3 : -9223372036854775808 ≤ d3 ∧ d3 ≤ 9223372036854775807) :
    Calls Tryd.prog 3 #[.agg (C own).toArray, .int .i64 k, .agg (C id).toArray, .agg #[.int .u8 a, .int .u8 b, .int .u8 c, .int .u8 d], .int .u16 p1, .agg #[.int .u8 a', .int .u8 b', .int .u8 c', .int .u8 d'], .int .u16 p2, .int .i64 d1, .int .i64 d2, .int .i64 d3] w
      fun e w' => e = .returned (.bool true) ∧ BW w w' := by
  have hu22 := Tryd.underlying22
  have hu23 := Tryd.underlying23
  have iO := size22 ho
  have iD := size22 hid
  have i1 := size23 a b c d
  have i2 := size23 a' b' c' d'
  have hb : BW w ((((w.alloc (.cells (C own).toArray 22)).alloc (.cells (C id).toArray 22)).alloc (.cells #[.int .u8 a, .int .u8 b, .int .u8 c, .int .u8 d] 23)).alloc (.cells #[.int .u8 a', .int .u8 b', .int .u8 c', .int .u8 d'] 23)) := lawW_bw w own id [.int .u8 a, .int .u8 b, .int .u8 c, .int .u8 d] [.int .u8 a', .int .u8 b', .int .u8 c', .int .u8 d']
  have rO : ((((w.alloc (.cells (C own).toArray 22)).alloc (.cells (C id).toArray 22)).alloc (.cells #[.int .u8 a, .int .u8 b, .int .u8 c, .int .u8 d] 23)).alloc (.cells #[.int .u8 a', .int .u8 b', .int .u8 c', .int .u8 d'] 23)).rangeAt w.heap.size 0 (C own) := lawW_own w own id [.int .u8 a, .int .u8 b, .int .u8 c, .int .u8 d] [.int .u8 a', .int .u8 b', .int .u8 c', .int .u8 d']
  have rD : ((((w.alloc (.cells (C own).toArray 22)).alloc (.cells (C id).toArray 22)).alloc (.cells #[.int .u8 a, .int .u8 b, .int .u8 c, .int .u8 d] 23)).alloc (.cells #[.int .u8 a', .int .u8 b', .int .u8 c', .int .u8 d'] 23)).rangeAt (w.heap.size + 1) 0 (C id) := lawW_id w own id [.int .u8 a, .int .u8 b, .int .u8 c, .int .u8 d] [.int .u8 a', .int .u8 b', .int .u8 c', .int .u8 d']
  have r1 : ((((w.alloc (.cells (C own).toArray 22)).alloc (.cells (C id).toArray 22)).alloc (.cells #[.int .u8 a, .int .u8 b, .int .u8 c, .int .u8 d] 23)).alloc (.cells #[.int .u8 a', .int .u8 b', .int .u8 c', .int .u8 d'] 23)).rangeAt (w.heap.size + 1 + 1) 0 [.int .u8 a, .int .u8 b, .int .u8 c, .int .u8 d] := lawW_i1 w own id [.int .u8 a, .int .u8 b, .int .u8 c, .int .u8 d] [.int .u8 a', .int .u8 b', .int .u8 c', .int .u8 d']
  have r2 : ((((w.alloc (.cells (C own).toArray 22)).alloc (.cells (C id).toArray 22)).alloc (.cells #[.int .u8 a, .int .u8 b, .int .u8 c, .int .u8 d] 23)).alloc (.cells #[.int .u8 a', .int .u8 b', .int .u8 c', .int .u8 d'] 23)).rangeAt (w.heap.size + 1 + 1 + 1) 0 [.int .u8 a', .int .u8 b', .int .u8 c', .int .u8 d'] := lawW_i2 w own id [.int .u8 a, .int .u8 b, .int .u8 c, .int .u8 d] [.int .u8 a', .int .u8 b', .int .u8 c', .int .u8 d']
  have e22 := eql22 id own hid ho
  have e23 : ∀ w, (binOp .eql 23 (.agg #[.int .u8 a, .int .u8 b, .int .u8 c, .int .u8 d]) (.agg #[.int .u8 a', .int .u8 b', .int .u8 c', .int .u8 d'])).run Tryd.prog w = .ok (.bool (([a, b, c, d] : List Int) == [a', b', c', d'])) w := eql23 [a, b, c, d] [a', b', c', d'] rfl rfl
  by_cases hk : k < 1
  · clear e22 e23
    go_enter Tryd.func3, Tryd.ntmps3
    go_wp2
    go_ret
    exact ⟨rfl, hb⟩
  by_cases hne : id = own
  · rw [show (id == own) = true by simpa using hne] at e22
    clear hne e23
    go_enter Tryd.func3, Tryd.ntmps3
    go_wp2_with (first | with_reducible refine wpList_load_mid rfl _ _ rfl _ _ rfl _ _ rO hu22 rfl iO ?_ | with_reducible refine wpList_load_mid rfl _ _ rfl _ _ rfl _ _ rD hu22 rfl iD ?_)
    go_ret
    exact ⟨rfl, hb⟩
  rw [show (id == own) = false by simpa using hne] at e22
  by_cases hip : ([a, b, c, d] : List Int) = [a', b', c', d']
  · rw [show (([a, b, c, d] : List Int) == [a', b', c', d']) = true by rw [hip]; exact beq_self_eq_true _] at e23
    by_cases hp : p1 = p2
    · subst hp
      clear hip hne
      go_enter Tryd.func3, Tryd.ntmps3
      go_wp2_with (first | with_reducible refine wpList_load_mid rfl _ _ rfl _ _ rfl _ _ rO hu22 rfl iO ?_ | with_reducible refine wpList_load_mid rfl _ _ rfl _ _ rfl _ _ rD hu22 rfl iD ?_ | with_reducible refine wpList_load_mid rfl _ _ rfl _ _ rfl _ _ r1 hu23 rfl i1 ?_ | with_reducible refine wpList_load_mid rfl _ _ rfl _ _ rfl _ _ r2 hu23 rfl i2 ?_)
      go_ret
      exact ⟨rfl, hb⟩
    · exact law_ports own id k a b c d p1 a' b' c' d' p2 d1 d2 d3 z w ho hid hz ba bb' bc bd ba' bb'' bc' bd' hd1 hd2 hd3 hk hne hip hp
  · exact law_ips own id k a b c d p1 a' b' c' d' p2 d1 d2 d3 z w ho hid hz ba bb' bc bd ba' bb'' bc' bd' hd1 hd2 hd3 hk hne hip

end Go.Proofs.Qxb6616992aDoor
