import Derived.Test.Qxb6617857aSort
import Derived.Deep.RegionHeld3
import Derived.Deep.DeepAppendRoom
import Derived.Deep.AppendLies
import Derived.Deep.LoopGhost
namespace Go.Proofs.Qxb6617857a
open Go.RowKit

theorem Try.info9 : (Try.prog.info? 9).map (fun i => (i.zero, i.size, i.bytes)) = some (some (.string ⟨#[]⟩), 1, 16) := by kernel_rfl

/-- What mergeSorted makes of its two slices. The number: how many rounds at most. -/
def mrg : Nat → List ByteArray → List ByteArray → List ByteArray
  | 0, a, b => a ++ b
  | _ + 1, [], b => b
  | _ + 1, a, [] => a
  | f + 1, x :: a, y :: b => if x.toList = y.toList then mrg f (x :: a) b else if bl x y then x :: mrg f a (y :: b) else y :: mrg f (x :: a) b

theorem step_append_spare {P : Program} (w : World) {ops : Array Oper} {o : Oper} {a : Act} {K : Act → World → Prop} {Q : Exit → Act → World → Prop} {E : Prop} (hgd : o.guard = none) (s x : Operand) (t : TypeId)
    (ho : o.op = .call { callee := .builtin .append, args := #[s, x], argTypes := #[t, t] })
    (base : Nat) (e : TypeId) (i : TypeInfo) (size : Nat) (ht : P.underlying t = some (.slice e)) (hi : P.info? e = some i) (hsize : i.size = size)
    (g n cap : Nat) (xs : List Value) (hs : a.eval s = .slice (some ⟨g, 0, none⟩) n cap) (hown : w.ownsRow base e size (.slice (some ⟨g, 0, none⟩) n cap) n xs)
    (ad : Addr) (m c : Nat) (news : List Value) (hx : a.eval x = .slice (some ad) m c) (hl : news.length = m * size) (hnews : ∀ j u, news[j]? = some u → w.cell? (ad.add j) = some u) (h1 : ∀ u ∈ news, u.oneCell' = true)
    (hroom : n + m ≤ cap)
    (h : ∀ w', w'.ownsRow base e size (.slice (some ⟨g, 0, none⟩) (n + m) cap) (n + m) (xs ++ news) → w.grownBy w' (some g) → K (a.put o.dst (.slice (some ⟨g, 0, none⟩) (n + m) cap)) w') :
    if Region.wanted o (yielded ops a.tmps) = true then Oper.wp P o a w K Q else E := by
  have hw : Region.wanted o (yielded ops a.tmps) = true := by simp [Region.wanted, hgd]
  rw [if_pos hw]
  exact wp_append_own_spare w s x t ho base e i size ht hi hsize g n cap xs hs hown ad m c news hx hl hnews h1 hroom h

/-- The loop's state: of a and b the strings A, B are left; O has been gathered; all together is I. -/
structure MI (w wr : World) (ao bo : Option Addr) (na nb ca cb k cap : Nat) (A B O I : List ByteArray) : Prop where
  la : A.length = na
  lb : B.length = nb
  za : ao = none → na = 0 ∧ ca = 0
  zb : bo = none → nb = 0 ∧ cb = 0
  sa : SV w ao A
  sb : SV w bo B
  own : wr.ownsRow w.heap.size 9 1 (.slice (some ⟨w.heap.size, 0, none⟩) k cap) k (O.map Value.string)
  bel : Below w.heap.size w wr
  eq : O ++ mrg (na + nb) A B = I

theorem uncons {A : List ByteArray} {n : Nat} (h : A.length = n) (p : 0 < n) : A = nth A 0 :: A.tail := by
  cases A with
  | nil => simp at h; omega
  | cons x t => rfl

theorem mrg_eq {A B : List ByteArray} {na nb : Nat} (la : A.length = na) (lb : B.length = nb) (p1 : 0 < na) (p2 : 0 < nb) (he : (nth A 0).toList = (nth B 0).toList) :
    mrg (na + nb) A B = mrg (na + (nb - 1)) A B.tail := by
  rw [uncons la p1, uncons lb p2, show na + nb = na + (nb - 1) + 1 by omega, mrg, if_pos he]
  rfl

theorem mrg_lt {A B : List ByteArray} {na nb : Nat} (la : A.length = na) (lb : B.length = nb) (p1 : 0 < na) (p2 : 0 < nb) (he : ¬ (nth A 0).toList = (nth B 0).toList) (hl : bl (nth A 0) (nth B 0) = true) :
    mrg (na + nb) A B = nth A 0 :: mrg (na - 1 + nb) A.tail B := by
  rw [uncons la p1, uncons lb p2, show na + nb = na - 1 + nb + 1 by omega, mrg, if_neg he, if_pos hl]
  rfl

theorem mrg_gt {A B : List ByteArray} {na nb : Nat} (la : A.length = na) (lb : B.length = nb) (p1 : 0 < na) (p2 : 0 < nb) (he : ¬ (nth A 0).toList = (nth B 0).toList) (hl : bl (nth A 0) (nth B 0) = false) :
    mrg (na + nb) A B = nth B 0 :: mrg (na + (nb - 1)) A B.tail := by
  rw [uncons la p1, uncons lb p2, show na + nb = na + (nb - 1) + 1 by omega, mrg, if_neg he, if_neg (by rw [hl]; decide)]
  rfl

theorem mrg_end {A B : List ByteArray} {na nb : Nat} (la : A.length = na) (lb : B.length = nb) (h : ¬ (0 < na ∧ 0 < nb)) : mrg (na + nb) A B = A ++ B := by
  cases A with
  | nil =>
    cases e : na + nb with
    | zero => rfl
    | succ f => simp [mrg]
  | cons x A =>
    cases B with
    | nil =>
      cases e : na + nb with
      | zero => rfl
      | succ f => simp [mrg]
    | cons y B => simp at la lb; omega

theorem nth_tail (l : List ByteArray) (j : Nat) : nth l.tail j = nth l (j + 1) := by
  cases l <;> simp [nth]

theorem SV.tail {w : World} {b o : Nat} {l : List ByteArray} (h : SV w (some ⟨b, o, none⟩) l) : SV w (some ⟨b, o + 1, none⟩) l.tail := by
  intro j hj
  have hj' : j + 1 < l.length := by simp at hj; omega
  obtain ⟨b', o', e, hc⟩ := h (j + 1) hj'
  cases e
  exact ⟨b, o + 1, rfl, by rw [nth_tail, show o + 1 + j = o + (j + 1) by omega]; exact hc⟩

theorem SV.nothing {w : World} {ao : Option Addr} {l : List ByteArray} (h : l.length = 0) : SV w ao l := by
  intro j hj; omega

/-- The address of 'a[1:]'. -/
theorem SV.cut {w : World} {b o n c : Nat} {l : List ByteArray} {ad : Addr} (h : SV w (some ⟨b, o, none⟩) l) (hl : l.length = n) (hn : n ≤ c) (had : ¬ c = 1 → ad = ⟨b, o + 1, none⟩) : SV w (some ad) l.tail := by
  by_cases hc : c = 1
  · exact SV.nothing (by simp; omega)
  · rw [had hc]; exact h.tail

section
variable {w wr : World} {b1 o1 b2 o2 : Nat} {ao bo : Option Addr} {na nb ca cb k cap : Nat} {A B O I : List ByteArray}

theorem MI.eqStep (H : MI w wr ao (some ⟨b2, o2, none⟩) na nb ca cb k cap A B O I) (p1 : 0 < na) (p2 : 0 < nb) (hcb : nb ≤ cb) (he : (nth A 0).toList = (nth B 0).toList)
    {ad : Addr} (had : ¬ cb = 1 → ad = ⟨b2, o2 + 1, none⟩) (q c : Nat) : MI w (wr.drewN q) ao (some ad) na (nb - 1) ca c k cap A B.tail O I :=
  ⟨H.la, by simp [H.lb], H.za, (fun h => by cases h), H.sa, H.sb.cut H.lb hcb had, H.own, below_drewN H.bel q, by rw [← H.eq, mrg_eq H.la H.lb p1 p2 he]⟩

theorem MI.ltStep (H : MI w wr (some ⟨b1, o1, none⟩) bo na nb ca cb k cap A B O I) (p1 : 0 < na) (p2 : 0 < nb) (hca : na ≤ ca) (he : ¬ (nth A 0).toList = (nth B 0).toList) (hlt : bl (nth A 0) (nth B 0) = true)
    {ad : Addr} (had : ¬ ca = 1 → ad = ⟨b1, o1 + 1, none⟩) {w1 : World} (hown : w1.ownsRow w.heap.size 9 1 (.slice (some ⟨w.heap.size, 0, none⟩) (k + 1) cap) (k + 1) (O.map Value.string ++ [.string (nth A 0)]))
    (hb : Below w.heap.size wr w1) (c : Nat) : MI w w1 (some ad) bo (na - 1) nb c cb (k + 1) cap A.tail B (O ++ [nth A 0]) I :=
  ⟨by simp [H.la], H.lb, (fun h => by cases h), H.zb, H.sa.cut H.la hca had, H.sb, by simpa using hown, H.bel.trans hb, by rw [← H.eq, mrg_lt H.la H.lb p1 p2 he hlt]; simp⟩

theorem MI.gtStep (H : MI w wr ao (some ⟨b2, o2, none⟩) na nb ca cb k cap A B O I) (p1 : 0 < na) (p2 : 0 < nb) (hcb : nb ≤ cb) (he : ¬ (nth A 0).toList = (nth B 0).toList) (hlt : bl (nth A 0) (nth B 0) = false)
    {ad : Addr} (had : ¬ cb = 1 → ad = ⟨b2, o2 + 1, none⟩) {w1 : World} (hown : w1.ownsRow w.heap.size 9 1 (.slice (some ⟨w.heap.size, 0, none⟩) (k + 1) cap) (k + 1) (O.map Value.string ++ [.string (nth B 0)]))
    (hb : Below w.heap.size wr w1) (c : Nat) : MI w w1 ao (some ad) na (nb - 1) ca c (k + 1) cap A B.tail (O ++ [nth B 0]) I :=
  ⟨H.la, by simp [H.lb], H.za, (fun h => by cases h), H.sa, H.sb.cut H.lb hcb had, by simpa using hown, H.bel.trans hb, by rw [← H.eq, mrg_gt H.la H.lb p1 p2 he hlt]; simp⟩

/-- the cells of a slice that is appended -/
theorem SV.cells {wr : World} (h : SV w ao A) (hb : Below w.heap.size w wr) : ∀ ad, ao = some ad → ∀ j u, (A.map Value.string)[j]? = some u → wr.cell? (ad.add j) = some u := by
  intro ad had j u hu
  rw [List.getElem?_map] at hu
  obtain ⟨y, hy, rfl⟩ := Option.map_eq_some_iff.1 hu
  have hj : j < A.length := (List.getElem?_eq_some_iff.1 hy).1
  obtain ⟨b, o, e, hc⟩ := h j hj
  rw [had] at e
  cases e
  rw [Addr.add_lit, hb.cell (World.block_lt_of_cell? w _ hc), hc]
  have : nth A j = y := by simp [nth, hy]
  rw [this]

theorem strs_oneCell (l : List ByteArray) : ∀ u ∈ l.map Value.string, u.oneCell' = true := by
  intro u hu
  obtain ⟨y, _, rfl⟩ := List.mem_map.1 hu
  rfl
end

theorem step_below {w wr w1 : World} {q : Nat} {O1 : Obj} (hsz : w.heap.size ≤ wr.heap.size) (hg : ((wr.drewN q).alloc O1).grownBy w1 (some w.heap.size)) : Below w.heap.size wr w1 :=
  ((below_drewN (Below.refl _ wr) q).alloc (by exact hsz) O1).grown hg (by simp; omega) (fun k hk => by cases hk; exact Nat.le_refl _)

set_option maxHeartbeats 2000000 in
theorem merge_any (ao bo : Option Addr) (n m c d : Nat) (A B : List ByteArray) (w : World) (ha : A.length = n) (hb : B.length = m) (hl : n ≤ 65536) (hl2 : m ≤ 65536) (hnc : n ≤ c) (hmd : m ≤ d)
    (za : ao = none → n = 0 ∧ c = 0) (zb : bo = none → m = 0 ∧ d = 0) (hs : SV w ao A) (ht : SV w bo B) :
    Calls Try.prog 19 #[.slice ao n c, .slice bo m d] w fun e w' => ∃ k, k ≤ n + m ∧ e = .returned (.slice (some ⟨w.heap.size, 0, none⟩) k (n + m)) ∧
      w'.ownsRow w.heap.size 9 1 (.slice (some ⟨w.heap.size, 0, none⟩) k (n + m)) k ((mrg (n + m) A B).map Value.string) ∧ Below w.heap.size w w' := by
  obtain ⟨i0, hi, hz0, hz1, hz2⟩ := info_parts Try.info9
  have HST : Hid (∀ w0 : World, w0.ownsRow w.heap.size 9 1 (.slice (some ⟨w.heap.size, 0, none⟩) 0 (n + m)) 0 [] → w.grownBy w0 none → MI w w0 ao bo n m c d 0 (n + m) A B [] (mrg (n + m) A B)) :=
    fun w0 h1 h2 => ⟨ha, hb, za, zb, hs, ht, h1, (Below.refl _ _).grown h2 (Nat.le_refl _) (fun k h => by cases h), by simp⟩
  generalize mrg (n + m) A B = I at HST ⊢
  clear ha hb za zb hs ht
  go_enter Try.func19, Try.ntmps19
  go_wp2_with (at_make; refine wpList_make_own _ rfl _ _ 22 rfl w.heap.size 9 i0 (.string ⟨#[]⟩) 1 Try.underlying22 hi hz0 hz1 _ _ _ (n + m) rfl rfl (by omega) ?b2 ?b3 (Nat.le_refl _) ?_)
  case b2 => rw [hz2]; omega
  case b3 => unfold maxLen; omega
  intro w0 hown0 hgrow0
  have HM := HST.out w0 hown0 hgrow0
  clear HST hown0 hgrow0
  go_wp2
  go_loopg [0, 1, 5] (n + m) (fun g s0 s1 s5 wr => ∃ (ao bo : Option Addr) (na nb ca cb k : Nat) (A B O : List ByteArray), s0 = .slice ao na ca ∧ s1 = .slice bo nb cb ∧ s5 = .slice (some ⟨w.heap.size, 0, none⟩) k (n + m) ∧
      na ≤ ca ∧ nb ≤ cb ∧ k + na + nb ≤ n + m ∧ g = na + nb ∧ MI w wr ao bo na nb ca cb k (n + m) A B O I)
  case atStart => exact ⟨ao, bo, n, m, c, d, 0, A, B, [], rfl, rfl, rfl, hnc, hmd, by omega, rfl, HM⟩
  case round =>
    clear HM
    obtain ⟨ao, bo, na, nb, ca, cb, k, A, B, O, rfl, rfl, rfl, h1, h2, h3, rfl, HM⟩ := hrel
    by_cases hp : 0 < na ∧ 0 < nb
    · obtain ⟨p1, p2⟩ := hp
      obtain ⟨b1, o1, rfl, c1⟩ := HM.sa 0 (by rw [HM.la]; exact p1)
      obtain ⟨b2, o2, rfl, c2⟩ := HM.sb 0 (by rw [HM.lb]; exact p2)
      have d1 : wr.cell? ⟨b1, o1, none⟩ = some (.string (nth A 0)) := (HM.bel.cell (World.block_lt_of_cell? w _ c1)).trans c1
      have d2 : wr.cell? ⟨b2, o2, none⟩ = some (.string (nth B 0)) := (HM.bel.cell (World.block_lt_of_cell? w _ c2)).trans c2
      by_cases he : (nth A 0).toList = (nth B 0).toList
      · have he' : ((nth A 0).toList == (nth B 0).toList) = true := by simp [he]
        have HQ : Hid (∀ (ad : Addr), (¬ cb = 1 → ad = ⟨b2, o2 + 1, none⟩) → ∀ q c, MI w (wr.drewN q) (some ⟨b1, o1, none⟩) (some ad) na (nb - 1) ca c k (n + m) A B.tail O I) := fun ad had q c => HM.eqStep p1 p2 h2 he had q c
        clear he c1 c2
        go_wp2
        go_quiet (fail)
        go_wp2
        · go_roundg (na + (nb - 1))
          case measure => omega
          case rel => exact ⟨_, _, na, nb - 1, ca, 0, k, A, B.tail, O, rfl, rfl, rfl, h1, by omega, by omega, rfl, HQ.out ⟨b2, o2, none⟩ (fun h => by omega) _ _⟩
        · go_roundg (na + (nb - 1))
          case measure => omega
          case rel => exact ⟨_, _, na, nb - 1, ca, cb - 1, k, A, B.tail, O, rfl, rfl, rfl, h1, by omega, by omega, rfl, HQ.out ⟨b2, o2 + 1, none⟩ (fun h => rfl) _ _⟩
      · have he' : ((nth A 0).toList == (nth B 0).toList) = false := by simp [he]
        cases hlt : bl (nth A 0) (nth B 0)
        · have hlt' : Op.bytesLess (nth A 0).toList (nth B 0).toList = false := hlt
          have hlc := World.block_lt_of_cell? w _ c2
          have hne : w.heap.size ≠ b2 := by have : b2 < w.heap.size := hlc; omega
          have hsz := HM.bel.size
          have i1 : (1 : Int) ≤ (nb : Int) := by omega
          have i2 : (nb : Int) ≤ (cb : Int) := by omega
          have HQ : Hid (∀ (ad : Addr), (¬ cb = 1 → ad = ⟨b2, o2 + 1, none⟩) → ∀ (q : Nat) (O1 : Obj) (w1 : World), w1.ownsRow w.heap.size 9 1 (.slice (some ⟨w.heap.size, 0, none⟩) (k + 1) (n + m)) (k + 1) (O.map Value.string ++ [.string (nth B 0)]) →
              ((wr.drewN q).alloc O1).grownBy w1 (some w.heap.size) → ∀ c, MI w w1 (some ⟨b1, o1, none⟩) (some ad) na (nb - 1) ca c (k + 1) (n + m) A B.tail (O ++ [nth B 0]) I) :=
            fun ad had q O1 w1 hw hg c => HM.gtStep p1 p2 h2 he hlt had hw (step_below hsz hg) c
          clear c1 c2 he
          by_cases hcb : cb = 1
          · obtain rfl := hcb
            obtain rfl : nb = 1 := by omega
            go_wp2
            go_quiet (fail)
            go_wp2
            go_quiet (fail)
            go_wp2
            go_region_held3 (fun w' => w'.cell? ⟨b2, o2, none⟩ = some (.string (nth B 0)))
              (first | go_keep | (rw [hgrow.cell_far _ (by simp; omega) (by simp; omega)]; assumption))
              ((refine step_append_spare _ (by rfl) _ _ 22 (by rfl) w.heap.size 9 i0 1 Try.underlying22 hi hz1 w.heap.size k (n + m) (O.map Value.string) (by rfl) (by exact HM.own.alloc _) ⟨wr.heap.size, 0, none⟩ 1 1 [.string (nth B 0)] (by rfl) (by rfl) (World.news_of_block (cs := #[.string (nth B 0)]) (t := 9) (fr := (0, 0)) (heap_alloc_new wr _)) (by simp [Value.oneCell']) (by omega) ?_; intro w1 hown1 hgrow))
            go_wp2
            go_roundg na
            case measure => omega
            case rel => exact ⟨_, _, na, 0, ca, 0, k + 1, A, B.tail, O ++ [nth B 0], rfl, rfl, rfl, h1, by omega, by omega, rfl, HQ.out ⟨b2, o2, none⟩ (fun h => absurd (by simp) h) _ _ _ hown1 hgrow _⟩
          · go_wp2
            go_quiet (fail)
            go_wp2
            go_quiet (fail)
            go_wp2
            go_region_held3 (fun w' => w'.cell? ⟨b2, o2, none⟩ = some (.string (nth B 0)))
              (first | go_keep | (rw [hgrow.cell_far _ (by simp; omega) (by simp; omega)]; assumption))
              ((refine step_append_spare _ (by rfl) _ _ 22 (by rfl) w.heap.size 9 i0 1 Try.underlying22 hi hz1 w.heap.size k (n + m) (O.map Value.string) (by rfl) (by exact HM.own.alloc _) ⟨wr.heap.size, 0, none⟩ 1 1 [.string (nth B 0)] (by rfl) (by rfl) (World.news_of_block (cs := #[.string (nth B 0)]) (t := 9) (fr := (0, 0)) (heap_alloc_new wr _)) (by simp [Value.oneCell']) (by omega) ?_; intro w1 hown1 hgrow))
            go_wp2
            go_roundg (na + (nb - 1))
            case measure => omega
            case rel => exact ⟨_, _, na, nb - 1, ca, cb - 1, k + 1, A, B.tail, O ++ [nth B 0], rfl, rfl, rfl, h1, by omega, by omega, rfl, HQ.out ⟨b2, o2 + 1, none⟩ (fun h => rfl) _ _ _ hown1 hgrow _⟩
        · have hlt' : Op.bytesLess (nth A 0).toList (nth B 0).toList = true := hlt
          have hlc := World.block_lt_of_cell? w _ c1
          have hne : w.heap.size ≠ b1 := by have : b1 < w.heap.size := hlc; omega
          have hsz := HM.bel.size
          have i1 : (1 : Int) ≤ (na : Int) := by omega
          have i2 : (na : Int) ≤ (ca : Int) := by omega
          have HQ : Hid (∀ (ad : Addr), (¬ ca = 1 → ad = ⟨b1, o1 + 1, none⟩) → ∀ (q : Nat) (O1 : Obj) (w1 : World), w1.ownsRow w.heap.size 9 1 (.slice (some ⟨w.heap.size, 0, none⟩) (k + 1) (n + m)) (k + 1) (O.map Value.string ++ [.string (nth A 0)]) →
              ((wr.drewN q).alloc O1).grownBy w1 (some w.heap.size) → ∀ c, MI w w1 (some ad) (some ⟨b2, o2, none⟩) (na - 1) nb c cb (k + 1) (n + m) A.tail B (O ++ [nth A 0]) I) :=
            fun ad had q O1 w1 hw hg c => HM.ltStep p1 p2 h1 he hlt had hw (step_below hsz hg) c
          clear c1 c2 he
          by_cases hca : ca = 1
          · obtain rfl := hca
            obtain rfl : na = 1 := by omega
            go_wp2
            go_quiet (fail)
            go_wp2
            go_quiet (fail)
            go_wp2
            go_region_held3 (fun w' => w'.cell? ⟨b1, o1, none⟩ = some (.string (nth A 0)))
              (first | go_keep | (rw [hgrow.cell_far _ (by simp; omega) (by simp; omega)]; assumption))
              ((refine step_append_spare _ (by rfl) _ _ 22 (by rfl) w.heap.size 9 i0 1 Try.underlying22 hi hz1 w.heap.size k (n + m) (O.map Value.string) (by rfl) (by exact HM.own.alloc _) ⟨wr.heap.size, 0, none⟩ 1 1 [.string (nth A 0)] (by rfl) (by rfl) (World.news_of_block (cs := #[.string (nth A 0)]) (t := 9) (fr := (0, 0)) (heap_alloc_new wr _)) (by simp [Value.oneCell']) (by omega) ?_; intro w1 hown1 hgrow))
            go_wp2
            go_roundg nb
            case measure => omega
            case rel => exact ⟨_, _, 0, nb, 0, cb, k + 1, A.tail, B, O ++ [nth A 0], rfl, rfl, rfl, by omega, h2, by omega, by omega, HQ.out ⟨b1, o1, none⟩ (fun h => absurd (by simp) h) _ _ _ hown1 hgrow _⟩
          · go_wp2
            go_quiet (fail)
            go_wp2
            go_quiet (fail)
            go_wp2
            go_region_held3 (fun w' => w'.cell? ⟨b1, o1, none⟩ = some (.string (nth A 0)))
              (first | go_keep | (rw [hgrow.cell_far _ (by simp; omega) (by simp; omega)]; assumption))
              ((refine step_append_spare _ (by rfl) _ _ 22 (by rfl) w.heap.size 9 i0 1 Try.underlying22 hi hz1 w.heap.size k (n + m) (O.map Value.string) (by rfl) (by exact HM.own.alloc _) ⟨wr.heap.size, 0, none⟩ 1 1 [.string (nth A 0)] (by rfl) (by rfl) (World.news_of_block (cs := #[.string (nth A 0)]) (t := 9) (fr := (0, 0)) (heap_alloc_new wr _)) (by simp [Value.oneCell']) (by omega) ?_; intro w1 hown1 hgrow))
            go_wp2
            go_roundg (na - 1 + nb)
            case measure => omega
            case rel => exact ⟨_, _, na - 1, nb, ca - 1, cb, k + 1, A.tail, B, O ++ [nth A 0], rfl, rfl, rfl, by omega, h2, by omega, rfl, HQ.out ⟨b1, o1 + 1, none⟩ (fun h => rfl) _ _ _ hown1 hgrow _⟩
    · have hfa := HM.sa.cells HM.bel
      have HB : Hid (∀ w1 : World, wr.grownBy w1 (some w.heap.size) → Below w.heap.size w w1) := fun w1 hg => HM.bel.grown hg HM.bel.size (fun k hk => by cases hk; exact Nat.le_refl _)
      have HFB : Hid (∀ w1 : World, wr.grownBy w1 (some w.heap.size) → ∀ ad, bo = some ad → ∀ j u, (B.map Value.string)[j]? = some u → w1.cell? (ad.add j) = some u) := fun w1 hg => HM.sb.cells (HB.out w1 hg)
      have hown := HM.own
      have la := HM.la
      have lb := HM.lb
      have za := HM.za
      have zb := HM.zb
      have HE : Hid (O ++ A ++ B = I) := (show O ++ A ++ B = I by rw [← HM.eq, mrg_end HM.la HM.lb hp, List.append_assoc])
      have HE2 : Hid (∀ w1 w2 : World, wr.grownBy w1 (some w.heap.size) → w1.grownBy w2 (some w.heap.size) → Below w.heap.size w w2) := fun w1 w2 h1 h2 => (HB.out w1 h1).grown h2 (HB.out w1 h1).size (fun k hk => by cases hk; exact Nat.le_refl _)
      clear HM HB
      have LA : Hid (A.length = na) := la
      have LB : Hid (B.length = nb) := lb
      have ZA : Hid (ao = none → na = 0 ∧ ca = 0) := za
      have ZB : Hid (bo = none → nb = 0 ∧ cb = 0) := zb
      have HFA : Hid (∀ ad, ao = some ad → ∀ j u, (A.map Value.string)[j]? = some u → wr.cell? (ad.add j) = some u) := hfa
      clear la lb za zb hfa
      by_cases hna : 0 < na
      · have hnb : ¬ 0 < nb := by omega
        clear hp
        go_wp2_with (first
          | (at_builtin; refine wpList_append_fits_any _ rfl (.tmp 52) (.tmp 53) 22 rfl w.heap.size 9 i0 1 Try.underlying22 hi hz1 w.heap.size k (n + m) _ rfl hown ao na ca (A.map Value.string) rfl (by simp [LA.out]) ZA.out HFA.out (strs_oneCell _) (by omega) ?_; intro w1 hown1 hgrow1)
          | (at_builtin; refine wpList_append_fits_any _ rfl (.tmp 54) (.tmp 55) 22 rfl w.heap.size 9 i0 1 Try.underlying22 hi hz1 w.heap.size (k + na) (n + m) _ rfl hown1 bo nb cb (B.map Value.string) rfl (by simp [LB.out]) ZB.out (HFB.out _ hgrow1) (strs_oneCell _) (by omega) ?_; intro w2 hown2 hgrow2))
        go_ret
        exact ⟨k + na + nb, by omega, rfl, by rw [← HE.out]; simpa using hown2, HE2.out _ _ hgrow1 hgrow2⟩
      · clear hp
        go_wp2_with (first
          | (at_builtin; refine wpList_append_fits_any _ rfl (.tmp 52) (.tmp 53) 22 rfl w.heap.size 9 i0 1 Try.underlying22 hi hz1 w.heap.size k (n + m) _ rfl hown ao na ca (A.map Value.string) rfl (by simp [LA.out]) ZA.out HFA.out (strs_oneCell _) (by omega) ?_; intro w1 hown1 hgrow1)
          | (at_builtin; refine wpList_append_fits_any _ rfl (.tmp 54) (.tmp 55) 22 rfl w.heap.size 9 i0 1 Try.underlying22 hi hz1 w.heap.size (k + na) (n + m) _ rfl hown1 bo nb cb (B.map Value.string) rfl (by simp [LB.out]) ZB.out (HFB.out _ hgrow1) (strs_oneCell _) (by omega) ?_; intro w2 hown2 hgrow2))
        go_ret
        exact ⟨k + na + nb, by omega, rfl, by rw [← HE.out]; simpa using hown2, HE2.out _ _ hgrow1 hgrow2⟩

end Go.Proofs.Qxb6617857a
