import Derived.Test.Qxb6617857aMrg
namespace Go.Proofs.Qxb6617857a

/-! ### The plain laws of the merge -/

def S (l : List ByteArray) : Prop := l.Pairwise (fun x y => bl x y = true)

theorem S_of_Inc : ∀ {l : List ByteArray}, Inc l → S l
  | [], _ => List.Pairwise.nil
  | x :: l, h => by
    have h' : Inc l := fun i hi => by
      have := h (i + 1) (by simpa using hi)
      simpa [nth] using this
    refine List.Pairwise.cons (fun y hy => ?_) (S_of_Inc h')
    obtain ⟨j, hj, rfl⟩ := nth_mem.1 hy
    have := Inc.lt h j 0 (by simpa using hj)
    simpa [nth] using this

theorem Inc_of_S {l : List ByteArray} (h : S l) : Inc l := by
  intro i hi
  have := List.pairwise_iff_getElem.1 h i (i + 1) (by omega) hi (by omega)
  simpa [nth, hi, show i < l.length by omega] using this

theorem bl_irrefl (x : ByteArray) : bl x x = false := L_irrefl _
theorem bl_asymm {x y : ByteArray} (h : bl x y = true) : bl y x = false := L_asymm _ _ h
theorem bl_trans {x y z : ByteArray} (h : bl x y = true) (k : bl y z = true) : bl x z = true := L_trans _ _ _ h k
theorem bl_ne {x y : ByteArray} (h : bl x y = true) : x ≠ y := by
  rintro rfl; rw [bl_irrefl] at h; cases h
theorem bl_gt {x y : ByteArray} (h : ¬ x.toList = y.toList) (k : bl x y = false) : bl y x = true := by
  cases e : bl y x
  · exact absurd (L_tri _ _ k e) h
  · rfl

theorem mrg_mem (z : ByteArray) : ∀ (f : Nat) (A B : List ByteArray), z ∈ mrg f A B ↔ z ∈ A ∨ z ∈ B
  | 0, A, B => by simp [mrg]
  | f + 1, [], B => by simp [mrg]
  | f + 1, x :: A, [] => by simp [mrg]
  | f + 1, x :: A, y :: B => by
    rw [mrg]
    split
    · rename_i e
      rw [mrg_mem z f, ba_ext e]
      simp only [List.mem_cons]
      constructor
      · rintro (h | h)
        · exact Or.inl h
        · exact Or.inr (Or.inr h)
      · rintro (h | h | h)
        · exact Or.inl h
        · exact Or.inl (Or.inl h)
        · exact Or.inr h
    · split
      · simp only [List.mem_cons, mrg_mem z f]
        constructor
        · rintro (h | h | h | h) <;> simp [h]
        · rintro ((h | h) | h | h) <;> simp [h]
      · simp only [List.mem_cons, mrg_mem z f]
        constructor
        · rintro (h | (h | h) | h) <;> simp [h]
        · rintro ((h | h) | h | h) <;> simp [h]

theorem mrg_S : ∀ (f : Nat) (A B : List ByteArray), A.length + B.length ≤ f → S A → S B → S (mrg f A B)
  | 0, A, B, hf, ha, hb => by
    obtain rfl : A = [] := List.eq_nil_of_length_eq_zero (by omega)
    simpa [mrg] using hb
  | f + 1, [], B, _, _, hb => by simpa [mrg] using hb
  | f + 1, x :: A, [], _, ha, _ => by simpa [mrg] using ha
  | f + 1, x :: A, y :: B, hf, ha, hb => by
    have ha' := List.pairwise_cons.1 ha
    have hb' := List.pairwise_cons.1 hb
    simp only [List.length_cons] at hf
    rw [mrg]
    split
    · exact mrg_S f _ _ (by simp; omega) ha hb'.2
    · rename_i hne
      split
      · rename_i hlt
        refine List.Pairwise.cons (fun z hz => ?_) (mrg_S f _ _ (by simp; omega) ha'.2 hb)
        rcases (mrg_mem z f _ _).1 hz with h | h
        · exact ha'.1 z h
        · rcases List.mem_cons.1 h with rfl | h
          · exact hlt
          · exact bl_trans hlt (hb'.1 z h)
      · rename_i hlt
        have hyx : bl y x = true := bl_gt hne (by simpa using hlt)
        refine List.Pairwise.cons (fun z hz => ?_) (mrg_S f _ _ (by simp; omega) ha hb'.2)
        rcases (mrg_mem z f _ _).1 hz with h | h
        · rcases List.mem_cons.1 h with rfl | h
          · exact hyx
          · exact bl_trans hyx (ha'.1 z h)
        · exact hb'.1 z h

/-- Sorted, and among the members of a sorted list: a sublist of it. -/
theorem S_sublist : ∀ (R B : List ByteArray), S R → S B → (∀ x ∈ B, x ∈ R) → B.Sublist R
  | [], [], _, _, _ => List.Sublist.slnil
  | [], b :: B, _, _, h => absurd (h b (by simp)) (by simp)
  | r :: R, [], _, _, _ => List.nil_sublist _
  | r :: R, b :: B, hr, hb, h => by
    have hr' := List.pairwise_cons.1 hr
    have hb' := List.pairwise_cons.1 hb
    by_cases e : b = r
    · subst e
      refine List.Sublist.cons_cons _ (S_sublist R B hr'.2 hb'.2 fun x hx => ?_)
      rcases List.mem_cons.1 (h x (List.mem_cons_of_mem _ hx)) with g | g
      · exact absurd g.symm (bl_ne (hb'.1 x hx))
      · exact g
    · have hbR : b ∈ R := by
        rcases List.mem_cons.1 (h b (by simp)) with g | g
        · exact absurd g e
        · exact g
      refine List.Sublist.cons _ (S_sublist R (b :: B) hr'.2 hb fun x hx => ?_)
      rcases List.mem_cons.1 (h x hx) with g | g
      · subst g
        have h1 := hr'.1 b hbR
        rcases List.mem_cons.1 hx with g | g
        · exact absurd g.symm e
        · rw [bl_asymm (hb'.1 x g)] at h1; cases h1
      · exact g

theorem S_ext {R B : List ByteArray} (hr : S R) (hb : S B) (h : ∀ x, x ∈ R ↔ x ∈ B) : R = B :=
  List.Sublist.eq_of_length_le (S_sublist B R hb hr fun x hx => (h x).1 hx) (List.Sublist.length_le (S_sublist R B hr hb fun x hx => (h x).2 hx))

theorem mrg_comm {A B : List ByteArray} {n m : Nat} (ha : A.length = n) (hb : B.length = m) (sa : S A) (sb : S B) : mrg (m + n) B A = mrg (n + m) A B :=
  S_ext (mrg_S _ _ _ (by omega) sb sa) (mrg_S _ _ _ (by omega) sa sb) fun x => by rw [mrg_mem, mrg_mem, Or.comm]

def inB (B : List ByteArray) (x : ByteArray) : Bool := B.any (fun y => y.toList == x.toList)
theorem inB_iff {B : List ByteArray} {x : ByteArray} : inB B x = true ↔ x ∈ B := by
  simp only [inB, List.any_eq_true, beq_iff_eq]
  constructor
  · rintro ⟨y, hy, e⟩
    rw [← ba_ext e]; exact hy
  · intro h; exact ⟨x, h, rfl⟩
theorem inB_false {B : List ByteArray} {x : ByteArray} (h : ¬ x ∈ B) : inB B x = false := by
  cases e : inB B x
  · rfl
  · exact absurd (inB_iff.1 e) h

/-- how many of A are in B -/
def cnt (A B : List ByteArray) : Nat := (A.filter (inB B)).length

theorem cnt_nil_right (A : List ByteArray) : cnt A [] = 0 := by simp [cnt, inB]

theorem cnt_cons_in {x : ByteArray} {A B : List ByteArray} (h : x ∈ B) : cnt (x :: A) B = cnt A B + 1 := by simp [cnt, inB_iff.2 h]
theorem cnt_cons_out {x : ByteArray} {A B : List ByteArray} (h : ¬ x ∈ B) : cnt (x :: A) B = cnt A B := by simp [cnt, inB_false h]
theorem cnt_drop_head {y : ByteArray} {A B : List ByteArray} (h : ¬ y ∈ A) : cnt A (y :: B) = cnt A B := by
  unfold cnt
  congr 1
  refine List.filter_congr fun x hx => ?_
  have : y.toList ≠ x.toList := fun e => h (by rw [ba_ext e]; exact hx)
  simp [inB, this]

theorem S_not_mem {x : ByteArray} {A : List ByteArray} (h : ∀ y ∈ A, bl x y = true) : ¬ x ∈ A := fun hx => bl_ne (h x hx) rfl

theorem mrg_len : ∀ (f : Nat) (A B : List ByteArray), A.length + B.length ≤ f → S A → S B → (mrg f A B).length + cnt A B = A.length + B.length
  | 0, A, B, hf, ha, hb => by
    obtain rfl : A = [] := List.eq_nil_of_length_eq_zero (by omega)
    simp [mrg, cnt]
  | f + 1, [], B, _, _, hb => by simp [mrg, cnt]
  | f + 1, x :: A, [], _, ha, _ => by simp [mrg, cnt_nil_right]
  | f + 1, x :: A, y :: B, hf, ha, hb => by
    have ha' := List.pairwise_cons.1 ha
    have hb' := List.pairwise_cons.1 hb
    simp only [List.length_cons] at hf
    rw [mrg]
    split
    · rename_i e
      obtain rfl := ba_ext e
      have ih := mrg_len f (x :: A) B (by simp; omega) ha hb'.2
      rw [cnt_cons_in (by simp), cnt_drop_head (S_not_mem ha'.1)]
      rw [cnt_cons_out (S_not_mem hb'.1)] at ih
      simp only [List.length_cons] at ih ⊢
      omega
    · rename_i hne
      split
      · rename_i hlt
        have ih := mrg_len f A (y :: B) (by simp; omega) ha'.2 hb
        have hx : ¬ x ∈ y :: B := S_not_mem fun z hz => by
          rcases List.mem_cons.1 hz with rfl | h
          · exact hlt
          · exact bl_trans hlt (hb'.1 z h)
        rw [cnt_cons_out hx]
        simp only [List.length_cons] at ih ⊢
        omega
      · rename_i hlt
        have hyx : bl y x = true := bl_gt hne (by simpa using hlt)
        have ih := mrg_len f (x :: A) B (by simp; omega) ha hb'.2
        have hy : ¬ y ∈ x :: A := S_not_mem fun z hz => by
          rcases List.mem_cons.1 hz with rfl | h
          · exact hyx
          · exact bl_trans hyx (ha'.1 z h)
        rw [cnt_drop_head hy]
        simp only [List.length_cons] at ih ⊢
        omega

/-- The count so far. -/
def cntTo (A B : List ByteArray) (i : Nat) : Nat := cnt (A.take i) B

theorem take_nth {A : List ByteArray} {i : Nat} (h : i < A.length) : A.take (i + 1) = A.take i ++ [nth A i] := by
  rw [List.take_succ_eq_append_getElem h]; simp [nth, h]

theorem cntTo_in {A B : List ByteArray} {i : Nat} (h : i < A.length) (hb : nth A i ∈ B) : cntTo A B (i + 1) = cntTo A B i + 1 := by
  unfold cntTo cnt
  rw [take_nth h]; simp [List.filter_append, inB_iff.2 hb]
theorem cntTo_out {A B : List ByteArray} {i : Nat} (h : i < A.length) (hb : ¬ nth A i ∈ B) : cntTo A B (i + 1) = cntTo A B i := by
  unfold cntTo cnt
  rw [take_nth h]; simp [List.filter_append, inB_false hb]
theorem cntTo_le (A B : List ByteArray) (i : Nat) : cntTo A B i ≤ i := by
  unfold cntTo cnt
  exact Nat.le_trans (List.length_filter_le _ _) (List.length_take_le _ _)
theorem cntTo_all {A B : List ByteArray} {n : Nat} (h : A.length = n) : cntTo A B n = cnt A B := by
  unfold cntTo; rw [List.take_of_length_le (by omega)]

end Go.Proofs.Qxb6617857a
