/- THE PLAIN LAWS of seat b6616681a: bytes of a string, no Go in sight. -/
namespace Go.Proofs.Qxb6616681a

/-- Is the byte a decimal digit? -/
def digB (c : Int) : Bool := decide (48 ≤ c) && decide (c ≤ 57)
/-- The byte at offset k, as a number; 0 behind the end. -/
def pk (s : ByteArray) (k : Nat) : Int := if h : k < s.size then (s[k].toNat : Int) else 0
/-- A number literal starts at k: a digit, or a point and a digit behind it. -/
def atNum (s : ByteArray) (k : Nat) : Bool :=
  digB (pk s k) || (decide (pk s k = 46) && digB (pk s (k + 1)))

theorem pk_lt (s : ByteArray) (k : Nat) (h : k < s.size) : pk s k = (s[k].toNat : Int) := by simp [pk, h]
theorem pk_ge (s : ByteArray) (k : Nat) (h : s.size ≤ k) : pk s k = 0 := by simp [pk]; omega
theorem digB_true {c : Int} : digB c = true ↔ 48 ≤ c ∧ c ≤ 57 := by simp [digB]
theorem digB_false {c : Int} : digB c = false ↔ ¬ (48 ≤ c ∧ c ≤ 57) := by rw [← digB_true]; simp
theorem digB_zero : digB 0 = false := by decide

theorem pk_extract (s : ByteArray) (o k : Nat) (ho : o ≤ s.size) : pk (s.extract o s.size) k = pk s (o + k) := by
  unfold pk
  have hsz : (s.extract o s.size).size = s.size - o := by simp
  by_cases h : o + k < s.size
  · rw [dif_pos h, dif_pos (by rw [hsz]; omega)]
    rw [ByteArray.getElem_extract]
  · rw [dif_neg h, dif_neg (by rw [hsz]; omega)]

theorem atNum_extract (s : ByteArray) (o : Nat) (ho : o ≤ s.size) : atNum (s.extract o s.size) 0 = atNum s o := by
  unfold atNum
  rw [pk_extract s o 0 ho, pk_extract s o (0 + 1) ho]
  rfl

theorem pk_append_lt (s t : ByteArray) (k : Nat) (h : k < s.size) : pk (s ++ t) k = pk s k := by
  unfold pk
  rw [dif_pos h, dif_pos (by rw [ByteArray.size_append]; omega)]
  rw [ByteArray.getElem_append_left h]

theorem atNum_append (s t : ByteArray) (o : Nat) (h : atNum s o = true) : atNum (s ++ t) o = true := by
  unfold atNum at h ⊢
  by_cases h0 : o < s.size
  · rw [pk_append_lt s t o h0]
    by_cases h1 : o + 1 < s.size
    · rw [pk_append_lt s t (o + 1) h1]; exact h
    · rw [pk_ge s (o + 1) (by omega)] at h
      simp [digB_zero] at h
      simp [h]
  · rw [pk_ge s o (by omega)] at h
    simp [digB_zero] at h

theorem atNum_append_eq (s t : ByteArray) (o : Nat) (h : o + 2 ≤ s.size) : atNum (s ++ t) o = atNum s o := by
  unfold atNum
  rw [pk_append_lt s t o (by omega), pk_append_lt s t (o + 1) (by omega)]

/-- No digit in [o, n): no number starts at o, if n is the end. -/
theorem atNum_none (s : ByteArray) (o : Nat) (h : ∀ t, o ≤ t → t < s.size → digB (pk s t) = false) : atNum s o = false := by
  have hz : ∀ t, o ≤ t → digB (pk s t) = false := by
    intro t ht
    by_cases hlt : t < s.size
    · exact h t ht hlt
    · rw [pk_ge s t (by omega)]; exact digB_zero
  unfold atNum
  rw [hz o (Nat.le_refl _), hz (o + 1) (by omega)]
  simp

/-- The first digit at or behind o lies at k. -/
theorem atNum_first (s : ByteArray) (o k : Nat) (hk : o ≤ k) (h : ∀ t, o ≤ t → t < k → digB (pk s t) = false) (hd : digB (pk s k) = true) :
    atNum s o = (decide (k = o) || (decide (k = o + 1) && decide (pk s o = 46))) := by
  unfold atNum
  by_cases e : k = o
  · subst e; simp [hd]
  · rw [h o (Nat.le_refl _) (by omega)]
    by_cases e1 : k = o + 1
    · subst e1; simp [hd]
    · rw [h (o + 1) (by omega) (by omega)]; simp [e, e1]

theorem atNum_point {s : ByteArray} {k : Nat} (h : pk s k = 46) : atNum s k = digB (pk s (k + 1)) := by
  have h46 : digB 46 = false := by decide
  simp [atNum, h, h46]

end Go.Proofs.Qxb6616681a
