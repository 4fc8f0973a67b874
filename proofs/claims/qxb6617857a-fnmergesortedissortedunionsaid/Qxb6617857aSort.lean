import Derived.Test.Qxb6617857aStr
namespace Go.Proofs.Qxb6617857a
open Go.RowKit

/-- The world is the same but for draws. -/
def Dr (w w' : World) : Prop := ∃ q, w' = w.drewN q
theorem Dr.refl (w : World) : Dr w w := ⟨0, rfl⟩
theorem Dr.one (w : World) (q : Nat) : Dr w (w.drewN q) := ⟨q, rfl⟩
theorem Dr.two (w : World) (q r : Nat) : Dr w ((w.drewN q).drewN r) := ⟨q + r, World.drewN_drewN _ _ _⟩
theorem Dr.trans {a b c : World} (h : Dr a b) (k : Dr b c) : Dr a c := by
  obtain ⟨q, rfl⟩ := h
  obtain ⟨r, rfl⟩ := k
  exact Dr.two _ _ _

/-- sorted without repeats -/
def Inc (l : List ByteArray) : Prop := ∀ i, i + 1 < l.length → bl (nth l i) (nth l (i + 1)) = true

set_option maxHeartbeats 1000000 in
theorem strictly_any (ao : Option Addr) (n c : Nat) (l : List ByteArray) (w : World) (hn : Hid (l.length = n)) (hl : n ≤ 1048576) (hs : SV w ao l) :
    Calls Try.prog 9 #[.slice ao n c] w fun e w' => RetIff e (Inc l) ∧ Dr w w' := by
  go_enter Try.func9, Try.ntmps9
  go_wp2
  go_loopw [3] (fun i wr => ∃ (k : Nat), (k + 1 ≤ n ∨ k = 0) ∧ i = .int .i64 ((k : Int) + 1) ∧ Dr w wr ∧ Hid (∀ j, j < k → bl (nth l j) (nth l (j + 1)) = true)) (fun i _ => n + 1 - (intOf i).toNat)
  case atStart => exact ⟨0, Or.inr rfl, rfl, Dr.refl _, fun j hj => absurd hj (Nat.not_lt_zero _)⟩
  case round =>
    obtain ⟨k, hk, rfl, ⟨q, rfl⟩, hind⟩ := hrel
    by_cases hlt : k + 1 < n
    · obtain ⟨b, off, rfl, hc1⟩ := hs (k + 1) (by rw [hn.out]; exact hlt)
      obtain ⟨b', off', e', hc0⟩ := hs k (by rw [hn.out]; omega)
      cases e'
      clear hs
      cases hy : bl (nth l k) (nth l (k + 1))
      · have hy' : Op.bytesLess (nth l k).toList (nth l (k + 1)).toList = false := hy
        go_wp2
        go_quiet (fail)
        go_wp2
        go_ret
        refine ⟨⟨false, rfl, ?_⟩, Dr.two _ _ _⟩
        constructor
        · intro h; cases h
        · intro h
          have := h k (by rw [hn.out]; exact hlt)
          rw [hy] at this
          exact this
      · have hy' : Op.bytesLess (nth l k).toList (nth l (k + 1)).toList = true := hy
        go_wp2
        go_quiet (fail)
        go_wp2
        go_roundw
        case rel =>
          refine ⟨k + 1, Or.inl (by omega), by go_num, Dr.one _ _, fun j hj => ?_⟩
          by_cases e : j = k
          · subst e; exact hy
          · exact hind.out j (by omega)
        case measure => simp [intOf]; omega
    · go_wp2
      go_ret
      refine ⟨⟨true, rfl, ?_⟩, Dr.one _ _⟩
      simp only [true_iff]
      intro j hj
      rw [hn.out] at hj
      exact hind.out j (by omega)

theorem ba_ext {a b : ByteArray} (h : a.toList = b.toList) : a = b := by
  rw [ByteArray.toList_eq, ByteArray.toList_eq] at h
  exact ByteArray.ext (Array.toList_inj.1 h)

/-- In a sorted list an earlier string is less. -/
theorem Inc.lt {l : List ByteArray} (h : Inc l) : ∀ (d i : Nat), i + d + 1 < l.length → bl (nth l i) (nth l (i + d + 1)) = true
  | 0, i, hi => h i hi
  | d + 1, i, hi => L_trans _ _ _ (Inc.lt h d i (by omega)) (h (i + d + 1) (by omega))

theorem Inc.le {l : List ByteArray} (h : Inc l) {i j : Nat} (hij : i ≤ j) (hj : j < l.length) : bl (nth l j) (nth l i) = false := by
  by_cases e : i = j
  · subst e; exact L_irrefl _
  · have := Inc.lt h (j - i - 1) i (by omega)
    rw [show i + (j - i - 1) + 1 = j by omega] at this
    exact L_asymm _ _ this

theorem nth_mem {l : List ByteArray} {s : ByteArray} : s ∈ l ↔ ∃ j, j < l.length ∧ nth l j = s := by
  rw [List.mem_iff_getElem]
  constructor
  · rintro ⟨j, hj, e⟩
    exact ⟨j, hj, by simp [nth, hj, e]⟩
  · rintro ⟨j, hj, e⟩
    exact ⟨j, hj, by simpa [nth, hj] using e⟩

/-- What the search knows: all below lo are less than s, none from hi on is. -/
def Bis (l : List ByteArray) (s : ByteArray) (lo hi : Nat) : Prop :=
  Inc l → (∀ j, j < lo → bl (nth l j) s = true) ∧ (∀ j, hi ≤ j → j < l.length → bl (nth l j) s = false)

theorem Bis.up {l : List ByteArray} {s : ByteArray} {lo hi m : Nat} (h : Bis l s lo hi) (hm : m < l.length) (hb : bl (nth l m) s = true) : Bis l s (m + 1) hi := by
  intro hi'
  refine ⟨fun j hj => ?_, (h hi').2⟩
  exact L_le_lt _ (nth l m).toList _ (Inc.le hi' (show j ≤ m by omega) hm) hb

theorem Bis.down {l : List ByteArray} {s : ByteArray} {lo hi m : Nat} (h : Bis l s lo hi) (hb : bl (nth l m) s = false) : Bis l s lo m := by
  intro hi'
  refine ⟨(h hi').1, fun j hj hjl => ?_⟩
  cases e : bl (nth l j) s
  · rfl
  · have := L_le_lt (nth l m).toList (nth l j).toList s.toList (Inc.le hi' hj hjl) e
    rw [← hb]; exact this.symm

theorem Bis.done_lt {l : List ByteArray} {s : ByteArray} {lo : Nat} (h : Bis l s lo lo) (hlt : lo < l.length) (hi : Inc l) : (nth l lo).toList = s.toList ↔ s ∈ l := by
  constructor
  · intro e
    exact nth_mem.2 ⟨lo, hlt, ba_ext e⟩
  · intro hm
    obtain ⟨j, hj, rfl⟩ := nth_mem.1 hm
    obtain ⟨h1, h2⟩ := h hi
    have hjl : lo ≤ j := by
      rcases Nat.lt_or_ge j lo with g | g
      · have := h1 j g; rw [show bl (nth l j) (nth l j) = false from L_irrefl _] at this; cases this
      · exact g
    have a1 := Inc.le hi hjl hj
    have a2 := h2 lo (Nat.le_refl _) hlt
    exact L_tri _ _ a2 a1

theorem Bis.done_ge {l : List ByteArray} {s : ByteArray} {lo : Nat} (h : Bis l s lo lo) (hge : l.length ≤ lo) (hi : Inc l) : ¬ s ∈ l := by
  intro hm
  obtain ⟨j, hj, rfl⟩ := nth_mem.1 hm
  have := (h hi).1 j (by omega)
  rw [show bl (nth l j) (nth l j) = false from L_irrefl _] at this
  cases this

/-- a bool is returned that is true just if s is among the sorted l -/
def RetHas (e : Ending) (l : List ByteArray) (s : ByteArray) : Prop := ∃ x : Bool, e = .returned (.bool x) ∧ (Inc l → (x = true ↔ s ∈ l))

set_option maxHeartbeats 1000000 in
theorem sortedHas_any (ao : Option Addr) (n c : Nat) (l : List ByteArray) (s : ByteArray) (w : World) (hn : Hid (l.length = n)) (hl : n ≤ 1048576) (hs : SV w ao l) :
    Calls Try.prog 12 #[.slice ao n c, .string s] w fun e w' => RetHas e l s ∧ w' = w := by
  go_enter Try.func12, Try.ntmps12
  go_wp2
  go_loop [5, 6] (fun a b => ∃ (lo hi : Nat), lo ≤ hi ∧ hi ≤ n ∧ a = .int .i64 lo ∧ b = .int .i64 hi ∧ Bis l s lo hi) (fun a b => (intOf b - intOf a).toNat)
  case atStart => exact ⟨0, n, Nat.zero_le _, Nat.le_refl _, rfl, rfl, fun _ => ⟨fun j hj => absurd hj (Nat.not_lt_zero _), fun j h1 h2 => by rw [hn.out] at h2; omega⟩⟩
  case round =>
    obtain ⟨lo, hi, h1, h2, rfl, rfl, hb⟩ := hrel
    by_cases hlt : lo < hi
    · obtain ⟨b, off, rfl, hc⟩ := hs (lo + (hi - lo) / 2) (by rw [hn.out]; omega)
      clear hs
      have hml : lo + (hi - lo) / 2 < l.length := by rw [hn.out]; omega
      have HU : Hid (bl (nth l (lo + (hi - lo) / 2)) s = true → Bis l s (lo + (hi - lo) / 2 + 1) hi) := fun h => Bis.up hb hml h
      have HD : Hid (bl (nth l (lo + (hi - lo) / 2)) s = false → Bis l s lo (lo + (hi - lo) / 2)) := fun h => Bis.down hb h
      clear hml hb
      cases hy : bl (nth l (lo + (hi - lo) / 2)) s
      · have hy' : Op.bytesLess (nth l (lo + (hi - lo) / 2)).toList s.toList = false := hy
        go_wp2
        go_round
        case rel => exact ⟨lo, lo + (hi - lo) / 2, by omega, by omega, rfl, by go_num, HD.out hy⟩
        case measure => simp [intOf]; omega
      · have hy' : Op.bytesLess (nth l (lo + (hi - lo) / 2)).toList s.toList = true := hy
        go_wp2
        go_round
        case rel => exact ⟨lo + (hi - lo) / 2 + 1, hi, by omega, h2, by go_num, rfl, HU.out hy⟩
        case measure => simp [intOf]; omega
    · obtain rfl : hi = lo := by omega
      by_cases hn' : hi < n
      · obtain ⟨b, off, rfl, hc⟩ := hs hi (by rw [hn.out]; exact hn')
        clear hs
        have HB : Hid (Bis l s hi hi) := hb
        clear hb
        go_wp2
        go_ret
        refine ⟨⟨_, rfl, fun hi' => ?_⟩, rfl⟩
        have := HB.out.done_lt (by rw [hn.out]; exact hn') hi'
        simpa [hn'] using this
      · have HB : Hid (Bis l s hi hi) := hb
        clear hb hs
        go_wp2
        go_ret
        refine ⟨⟨false, rfl, fun hi' => ?_⟩, rfl⟩
        have := HB.out.done_ge (by rw [hn.out]; omega) hi'
        simpa using this

/-- a bool is returned that is true if x can be read out of r in order -/
def RetSub (e : Ending) (x r : List ByteArray) : Prop := ∃ b : Bool, e = .returned (.bool b) ∧ (x.Sublist r → b = true)

def SubInv (x r : List ByteArray) (j i : Nat) : Prop := x.Sublist r → (x.drop j).Sublist (r.drop i)

theorem drop_nth {l : List ByteArray} {j : Nat} (h : j < l.length) : l.drop j = nth l j :: l.drop (j + 1) := by
  rw [List.drop_eq_getElem_cons h]
  simp [nth, h]

theorem SubInv.hit {x r : List ByteArray} {j i : Nat} (h : SubInv x r j i) (hj : j < x.length) (hi : i < r.length) (e : (nth r i).toList = (nth x j).toList) : SubInv x r (j + 1) (i + 1) := by
  intro hs
  have := h hs
  rw [drop_nth hj, drop_nth hi, ba_ext e] at this
  exact List.cons_sublist_cons.1 this

theorem SubInv.miss {x r : List ByteArray} {j i : Nat} (h : SubInv x r j i) (hj : j < x.length) (hi : i < r.length) (e : ¬ (nth r i).toList = (nth x j).toList) : SubInv x r j (i + 1) := by
  intro hs
  have := h hs
  rw [drop_nth hj, drop_nth hi] at this
  rw [drop_nth hj]
  generalize nth r i = a at *
  generalize nth x j = b at *
  cases this with
  | cons _ h => exact h
  | cons_cons _ h => exact absurd rfl e

theorem SubInv.end_r {x r : List ByteArray} {j i : Nat} (h : SubInv x r j i) (hi : r.length ≤ i) (hs : x.Sublist r) : x.length ≤ j := by
  have := h hs
  rw [List.drop_eq_nil_of_le hi, List.sublist_nil] at this
  exact List.drop_eq_nil_iff.1 this

set_option maxHeartbeats 1000000 in
theorem isSub_any (ao bo : Option Addr) (n m c d : Nat) (x r : List ByteArray) (w : World) (hn : Hid (x.length = n)) (hm : Hid (r.length = m)) (hl : n ≤ 1048576) (hl2 : m ≤ 1048576) (hs : SV w ao x) (ht : SV w bo r) :
    Calls Try.prog 11 #[.slice ao n c, .slice bo m d] w fun e w' => RetSub e x r ∧ Dr w w' := by
  go_enter Try.func11, Try.ntmps11
  go_wp2
  go_loopw [5, 6] (fun a b wr => ∃ (j i : Nat), j ≤ n ∧ i ≤ m ∧ a = .int .i64 j ∧ b = .int .i64 i ∧ Dr w wr ∧ Hid (SubInv x r j i)) (fun _ b _ => m - (intOf b).toNat)
  case atStart => exact ⟨0, 0, Nat.zero_le _, Nat.zero_le _, rfl, rfl, Dr.refl _, fun h => by simpa using h⟩
  case round =>
    obtain ⟨j, i, hj, hi, rfl, rfl, ⟨q, rfl⟩, HB⟩ := hrel
    by_cases hlt : i < m
    · by_cases hjn : j < n
      · obtain ⟨b, off, rfl, hc⟩ := hs j (by rw [hn.out]; exact hjn)
        obtain ⟨b2, off2, rfl, hc2⟩ := ht i (by rw [hm.out]; exact hlt)
        clear hs ht
        by_cases hy : (nth r i).toList = (nth x j).toList
        · have HI : Hid (SubInv x r (j + 1) (i + 1)) := HB.out.hit (by rw [hn.out]; exact hjn) (by rw [hm.out]; exact hlt) hy
          have hy' : ((nth r i).toList == (nth x j).toList) = true := by simp [hy]
          clear hy HB
          go_wp2
          go_quiet (fail)
          go_wp2
          go_roundw
          case rel => exact ⟨j + 1, i + 1, by omega, by omega, by go_num, by go_num, Dr.one _ _, HI⟩
          case measure => simp [intOf]; omega
        · have HI : Hid (SubInv x r j (i + 1)) := HB.out.miss (by rw [hn.out]; exact hjn) (by rw [hm.out]; exact hlt) hy
          have hy' : ((nth r i).toList == (nth x j).toList) = false := by simp [hy]
          clear hy HB
          go_wp2
          go_quiet (fail)
          go_wp2
          go_roundw
          case rel => exact ⟨j, i + 1, by omega, by omega, rfl, by go_num, Dr.one _ _, HI⟩
          case measure => simp [intOf]; omega
      · obtain rfl : j = n := by omega
        go_wp2
        go_ret
        exact ⟨⟨true, by simp, fun _ => rfl⟩, Dr.one _ _⟩
    · go_wp2
      go_ret
      refine ⟨⟨_, rfl, fun h => ?_⟩, Dr.one _ _⟩
      have := HB.out.end_r (by rw [hm.out]; omega) h
      rw [hn.out] at this
      simp; omega

end Go.Proofs.Qxb6617857a
