/- THE TEXT OF n NESTED CONTAINERS: plain lists of bytes, no Go in sight. -/
namespace Go.Proofs.Qxb6616012a

/-- What the building loop lays for container i. -/
def opn (k : Nat → Bool) (n i : Nat) : List Int := if k i then (if i + 1 < n then [123, 34, 34, 58] else [123]) else [91]
def openI (k : Nat → Bool) (i : Nat) : Int := if k i then 123 else 91
def clo (k : Nat → Bool) (i : Nat) : Int := if k i then 125 else 93
def opens (k : Nat → Bool) (n : Nat) : Nat → List Int
  | 0 => []
  | j + 1 => opens k n j ++ opn k n j
def closes (k : Nat → Bool) (n : Nat) : Nat → List Int
  | 0 => []
  | t + 1 => closes k n t ++ [clo k (n - 1 - t)]
def text (k : Nat → Bool) (n : Nat) : List Int := opens k n n ++ closes k n n
def pos (k : Nat → Bool) (n j : Nat) : Nat := (opens k n j).length
def byteAt (k : Nat → Bool) (n i : Nat) : Int := (text k n).getD i 0

theorem opn_len (k : Nat → Bool) (n i : Nat) : 1 ≤ (opn k n i).length ∧ (opn k n i).length ≤ 4 := by
  unfold opn; split
  · split <;> simp
  · simp
theorem pos_succ (k : Nat → Bool) (n j : Nat) : pos k n (j + 1) = pos k n j + (opn k n j).length := by simp [pos, opens]
theorem pos_le (k : Nat → Bool) (n j : Nat) : pos k n j ≤ 4 * j := by
  induction j with
  | zero => simp [pos, opens]
  | succ j ih => have := (opn_len k n j).2; rw [pos_succ]; omega
theorem closes_len (k : Nat → Bool) (n t : Nat) : (closes k n t).length = t := by
  induction t with
  | zero => rfl
  | succ t ih => simp [closes, ih]
theorem text_len (k : Nat → Bool) (n : Nat) : (text k n).length = pos k n n + n := by simp [text, pos, closes_len]

/-- The opening texts of the first j containers stand at the head of those of the first m. -/
theorem opens_get (k : Nat → Bool) (n j m i : Nat) (hjm : j ≤ m) (hi : i < pos k n j) : (opens k n m)[i]? = (opens k n j)[i]? := by
  induction m with
  | zero =>
    have e0 : j = 0 := by omega
    rw [e0]
  | succ m ih =>
    by_cases h : j = m + 1
    · subst h; rfl
    · have hm : pos k n j ≤ pos k n m := by
        have hle : j ≤ m := by omega
        clear ih hjm h hi
        induction m with
        | zero =>
          have e0 : j = 0 := by omega
          rw [e0]; exact Nat.le_refl _
        | succ m ih2 =>
          by_cases h : j = m + 1
          · subst h; exact Nat.le_refl _
          · have := ih2 (by omega); rw [pos_succ]; omega
      have : (opens k n (m + 1))[i]? = (opens k n m)[i]? := by
        simp only [opens]
        rw [List.getElem?_append_left (by unfold pos at *; omega)]
      rw [this]
      exact ih (by omega)

theorem pos_mono (k : Nat → Bool) (n j m : Nat) (h : j ≤ m) : pos k n j ≤ pos k n m := by
  induction m with
  | zero =>
    have e0 : j = 0 := by omega
    rw [e0]; exact Nat.le_refl _
  | succ m ih =>
    by_cases e : j = m + 1
    · subst e; exact Nat.le_refl _
    · have := ih (by omega); rw [pos_succ]; omega

/-- Byte t of container j's opening text. -/
theorem byte_open (k : Nat → Bool) (n j t : Nat) (hj : j < n) (ht : t < (opn k n j).length) : byteAt k n (pos k n j + t) = (opn k n j).getD t 0 := by
  have h1 : (opens k n n)[pos k n j + t]? = (opens k n (j + 1))[pos k n j + t]? := opens_get k n (j + 1) n _ (by omega) (by rw [pos_succ]; omega)
  have h2 : (opens k n (j + 1))[pos k n j + t]? = (opn k n j)[t]? := by
    simp only [opens]
    rw [List.getElem?_append_right (by unfold pos; omega)]
    congr 1
    unfold pos; omega
  have h3 : pos k n (j + 1) ≤ pos k n n := pos_mono k n _ _ (by omega)
  have h4 : (text k n)[pos k n j + t]? = (opens k n n)[pos k n j + t]? := by
    unfold text
    rw [List.getElem?_append_left]
    rw [pos_succ] at h3
    unfold pos at *
    omega
  unfold byteAt
  rw [List.getD_eq_getElem?_getD, h4, h1, h2, List.getD_eq_getElem?_getD]

theorem closes_get (k : Nat → Bool) (n m t : Nat) (ht : t < m) : (closes k n m)[t]? = some (clo k (n - 1 - t)) := by
  induction m with
  | zero => omega
  | succ m ih =>
    simp only [closes]
    by_cases h : t = m
    · subst h
      rw [List.getElem?_append_right (by rw [closes_len]; omega), closes_len]
      simp
    · rw [List.getElem?_append_left (by rw [closes_len]; omega)]
      exact ih (by omega)

/-- The t-th closing bracket. -/
theorem byte_close (k : Nat → Bool) (n t : Nat) (ht : t < n) : byteAt k n (pos k n n + t) = clo k (n - 1 - t) := by
  unfold byteAt text
  rw [List.getD_eq_getElem?_getD, List.getElem?_append_right (by unfold pos; omega)]
  have : pos k n n + t - (opens k n n).length = t := by unfold pos; omega
  rw [this, closes_get k n n t ht]
  rfl

/-- At container j's opening bracket. -/
theorem byte_head (k : Nat → Bool) (n j : Nat) (hj : j < n) : byteAt k n (pos k n j) = openI k j := by
  have h := byte_open k n j 0 hj (opn_len k n j).1
  simp only [Nat.add_zero] at h
  rw [h]
  unfold opn openI
  cases k j
  · rfl
  · simp; split <;> rfl

/-- An object that is not the innermost: 'a name, empty, and a colon'. -/
theorem byte_name (k : Nat → Bool) (n j : Nat) (hj : j + 1 < n) (hk : k j = true) :
    byteAt k n (pos k n j + 1) = 34 ∧ byteAt k n (pos k n j + 2) = 34 ∧ byteAt k n (pos k n j + 3) = 58 ∧ pos k n (j + 1) = pos k n j + 4 := by
  have e : opn k n j = [123, 34, 34, 58] := by simp [opn, hk, hj]
  have l : (opn k n j).length = 4 := by rw [e]; rfl
  refine ⟨?_, ?_, ?_, ?_⟩
  · rw [byte_open k n j 1 (by omega) (by omega), e]; rfl
  · rw [byte_open k n j 2 (by omega) (by omega), e]; rfl
  · rw [byte_open k n j 3 (by omega) (by omega), e]; rfl
  · rw [pos_succ, l]

theorem pos_array (k : Nat → Bool) (n j : Nat) (hk : k j = false) : pos k n (j + 1) = pos k n j + 1 := by
  rw [pos_succ]; simp [opn, hk]

/-- Behind the innermost container's opening bracket come the closing ones. -/
theorem pos_last (k : Nat → Bool) (n : Nat) (hn : 0 < n) : pos k n n = pos k n (n - 1) + 1 := by
  obtain ⟨m, rfl⟩ : ∃ m, n = m + 1 := ⟨n - 1, by omega⟩
  rw [pos_succ]
  have : (opn k (m + 1) m).length = 1 := by
    unfold opn
    cases k m <;> simp
  simp [this]

theorem text_take (k : Nat → Bool) (n : Nat) : text k n = opens k n n ++ closes k n n := rfl
end Go.Proofs.Qxb6616012a
