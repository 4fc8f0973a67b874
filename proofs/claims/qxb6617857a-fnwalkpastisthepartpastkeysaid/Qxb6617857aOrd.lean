import Derived.Test.Qxb6617857aWpA
namespace Go.Proofs.Qxb6617857a

/-! ### The order of byte lists, as the model compares strings -/

theorem L_irrefl : ∀ x : List UInt8, Op.bytesLess x x = false
  | [] => rfl
  | a :: x => by simp [Op.bytesLess, L_irrefl x]

theorem L_asymm : ∀ x y : List UInt8, Op.bytesLess x y = true → Op.bytesLess y x = false
  | [], [], h => by simp [Op.bytesLess] at h
  | [], _ :: _, _ => rfl
  | _ :: _, [], h => by simp [Op.bytesLess] at h
  | a :: x, b :: y, h => by
    simp only [Op.bytesLess, Bool.or_eq_true, decide_eq_true_eq, Bool.and_eq_true, beq_iff_eq] at h
    simp only [Op.bytesLess, Bool.or_eq_false_iff, decide_eq_false_iff_not, Bool.and_eq_false_iff, beq_eq_false_iff_ne]
    rcases h with h | ⟨rfl, h⟩
    · rw [UInt8.lt_iff_toNat_lt] at h ⊢
      refine ⟨by omega, Or.inl ?_⟩
      rintro rfl
      omega
    · refine ⟨by rw [UInt8.lt_iff_toNat_lt]; omega, Or.inr (L_asymm x y h)⟩

theorem L_tri : ∀ x y : List UInt8, Op.bytesLess x y = false → Op.bytesLess y x = false → x = y
  | [], [], _, _ => rfl
  | [], _ :: _, h, _ => by simp [Op.bytesLess] at h
  | _ :: _, [], _, h => by simp [Op.bytesLess] at h
  | a :: x, b :: y, h, k => by
    simp only [Op.bytesLess, Bool.or_eq_false_iff, decide_eq_false_iff_not, Bool.and_eq_false_iff, beq_eq_false_iff_ne, UInt8.lt_iff_toNat_lt] at h k
    obtain ⟨h1, h2⟩ := h
    obtain ⟨k1, k2⟩ := k
    have e : a = b := UInt8.toNat_inj.1 (by omega)
    subst e
    rw [L_tri x y (by simpa using h2) (by simpa using k2)]

theorem L_trans : ∀ x y z : List UInt8, Op.bytesLess x y = true → Op.bytesLess y z = true → Op.bytesLess x z = true
  | [], [], _, h, _ => by simp [Op.bytesLess] at h
  | _ :: _, [], _, h, _ => by simp [Op.bytesLess] at h
  | _, _ :: _, [], _, h => by simp [Op.bytesLess] at h
  | [], _ :: _, _ :: _, _, _ => rfl
  | a :: x, b :: y, c :: z, h, k => by
    simp only [Op.bytesLess, Bool.or_eq_true, decide_eq_true_eq, Bool.and_eq_true, beq_iff_eq, UInt8.lt_iff_toNat_lt] at h k ⊢
    rcases h with h | ⟨rfl, h⟩
    · rcases k with k | ⟨rfl, k⟩
      · left; omega
      · left; exact h
    · rcases k with k | ⟨rfl, k⟩
      · left; exact k
      · right; exact ⟨rfl, L_trans x y z h k⟩

theorem L_snoc0 : ∀ k p : List UInt8, Op.bytesLess p (k ++ [0]) = !Op.bytesLess k p
  | [], [] => rfl
  | [], b :: p => by
    have : ¬ b < 0 := by rw [UInt8.lt_iff_toNat_lt]; simp
    cases p <;> simp [Op.bytesLess, this]
  | a :: k, [] => rfl
  | a :: k, b :: p => by
    simp only [List.cons_append, Op.bytesLess, L_snoc0 k p]
    rcases Nat.lt_trichotomy a.toNat b.toNat with h | h | h
    · have h1 : a < b := UInt8.lt_iff_toNat_lt.2 h
      have h2 : ¬ b < a := by rw [UInt8.lt_iff_toNat_lt]; omega
      have h3 : ¬ b = a := by rintro rfl; omega
      simp [h1, h2, h3]
    · have e : a = b := UInt8.toNat_inj.1 h
      subst e
      have h2 : ¬ a < a := by rw [UInt8.lt_iff_toNat_lt]; omega
      simp [h2]
    · have h1 : b < a := UInt8.lt_iff_toNat_lt.2 h
      have h2 : ¬ a < b := by rw [UInt8.lt_iff_toNat_lt]; omega
      have h3 : ¬ a = b := by rintro rfl; omega
      simp [h1, h2, h3]

theorem L_nil (x : List UInt8) : Op.bytesLess x [] = false := by cases x <;> rfl

/-- 'x <= y' -/
theorem L_le (x y : List UInt8) : (Op.bytesLess x y || x == y) = !Op.bytesLess y x := by
  cases h : Op.bytesLess x y
  · cases k : Op.bytesLess y x
    · simp [L_tri x y h k]
    · have : x ≠ y := by rintro rfl; rw [L_irrefl] at k; cases k
      simp [this]
  · simp [L_asymm x y h]

/-- x <= y, y < z: x < z -/
theorem L_le_lt (x y z : List UInt8) (h : Op.bytesLess y x = false) (k : Op.bytesLess y z = true) : Op.bytesLess x z = true := by
  cases g : Op.bytesLess x y
  · rw [L_tri x y g h]; exact k
  · exact L_trans x y z g k

theorem L_lt_le (x y z : List UInt8) (h : Op.bytesLess x y = true) (k : Op.bytesLess z y = false) : Op.bytesLess x z = true := by
  cases g : Op.bytesLess y z
  · rw [← L_tri y z g k]; exact h
  · exact L_trans x y z h g

theorem toList_snoc0 (k : ByteArray) : (k ++ (⟨#[0]⟩ : ByteArray)).toList = k.toList ++ [0] := by
  rw [ByteArray.toList_eq, ByteArray.toList_eq]
  simp [ByteArray.data_append]

/-! ### The plain law of the split -/

def b2i (b : Bool) : Int := if b then 1 else 0

theorem inR_iff (s e p : ByteArray) : inR s e p = (!Op.bytesLess p.toList s.toList && (e.toList.isEmpty || Op.bytesLess p.toList e.toList)) := by
  unfold inR bl
  rw [L_le]

/-- the ascending part -/
theorem asc_part (s e k p : ByteArray) (hin : inR s e k = true) :
    (!emp (k ++ ⟨#[0]⟩) e && inR (k ++ ⟨#[0]⟩) e p) = (inR s e p && Op.bytesLess k.toList p.toList) := by
  rw [inR_iff] at hin ⊢
  rw [inR_iff s e p]
  unfold emp bl
  rw [toList_snoc0, L_snoc0]
  generalize s.toList = S at *
  generalize e.toList = E at *
  generalize k.toList = K at *
  generalize p.toList = P at *
  simp only [Bool.and_eq_true, Bool.not_eq_true', Bool.or_eq_true] at hin
  obtain ⟨h1, h2⟩ := hin
  cases hKP : Op.bytesLess K P
  · simp
  · have hs : Op.bytesLess P S = false := by
      cases h : Op.bytesLess P S
      · rfl
      · rw [L_trans K P S hKP h] at h1; cases h1
    cases hE : E.isEmpty
    · cases hPE : Op.bytesLess P E
      · simp
      · have : Op.bytesLess (K ++ [0]) E = true := L_le_lt _ P E (by rw [L_snoc0, hKP]; rfl) hPE
        simp [this, hs]
    · simp [hs]

/-- the descending part -/
theorem desc_part (s e k p : ByteArray) (hin : inR s e k = true) (hk : k.toList.isEmpty = false) :
    (!emp s k && inR s k p) = (inR s e p && Op.bytesLess p.toList k.toList) := by
  rw [inR_iff] at hin ⊢
  rw [inR_iff s e p]
  unfold emp bl
  rw [hk]
  generalize s.toList = S at *
  generalize e.toList = E at *
  generalize k.toList = K at *
  generalize p.toList = P at *
  simp only [Bool.and_eq_true, Bool.not_eq_true', Bool.or_eq_true] at hin
  obtain ⟨h1, h2⟩ := hin
  cases hPK : Op.bytesLess P K
  · simp
  · cases hPS : Op.bytesLess P S
    · have h3 : Op.bytesLess S K = true := L_le_lt _ P K hPS hPK
      rcases h2 with h2 | h2
      · simp [h2, h3]
      · simp [L_trans P K E hPK h2, h3]
    · simp

theorem desc_none (s e p k : ByteArray) (hk : k.toList.isEmpty = true) : (inR s e p && Op.bytesLess p.toList k.toList) = false := by
  have : k.toList = [] := by simpa using hk
  rw [this, L_nil]; simp

/-- How often p is held: by the key, by the part past it, by the part ahead of it. -/
theorem split_count (P K : List UInt8) (i : Bool) (hi : P = K → i = true) :
    b2i (P == K) + b2i (i && Op.bytesLess K P) + b2i (i && Op.bytesLess P K) = b2i i := by
  cases h : Op.bytesLess K P
  · cases g : Op.bytesLess P K
    · have e := L_tri P K g h
      rw [hi e]; subst e; simp [b2i]
    · have : P ≠ K := by rintro rfl; rw [L_irrefl] at g; cases g
      simp [this, b2i]
  · have g := L_asymm K P h
    have : P ≠ K := by rintro rfl; rw [L_irrefl] at h; cases h
    simp [this, g, b2i]

end Go.Proofs.Qxb6617857a
