/-
  Plain mathematics for the laws over appendFixed and isDigits: lists of byte values, decimal digits. No Go in sight.
-/
namespace Go.Proofs.Qxb6603215a

/-- The last k decimal digits of a, as ASCII bytes. -/
def dg : Nat → Nat → List Int
  | _, 0 => []
  | a, k + 1 => dg (a / 10) k ++ [48 + ((a % 10 : Nat) : Int)]

theorem dg_length (a k : Nat) : (dg a k).length = k := by
  induction k generalizing a with
  | zero => rfl
  | succ k ih => simp [dg, ih]

theorem dg_cons (a k : Nat) : dg a (k + 1) = (48 + ((a / 10 ^ k % 10 : Nat) : Int)) :: dg a k := by
  induction k generalizing a with
  | zero => simp [dg]
  | succ k ih =>
    rw [dg, ih (a / 10), dg, List.cons_append, Nat.div_div_eq_div_mul, Nat.mul_comm 10, ← Nat.pow_succ]

theorem dg_digit (a k : Nat) : ∀ x ∈ dg a k, 48 ≤ x ∧ x ≤ 57 := by
  induction k generalizing a with
  | zero => intro x hx; cases hx
  | succ k ih =>
    intro x hx
    rw [dg, List.mem_append] at hx
    rcases hx with hx | hx
    · exact ih _ x hx
    · simp at hx; subst hx; omega

/-- What stands in the text behind n rounds: n digits of a, a point ahead of the last p (p > 0) once more than p are written. -/
def tx (a p n : Nat) : List Int := if p = 0 ∨ n ≤ p then dg a n else dg (a / 10 ^ p) (n - p) ++ 46 :: dg a p

theorem tx_zero (a p : Nat) : tx a p 0 = [] := by simp [tx, dg]

theorem tx_length (a p n : Nat) : (tx a p n).length = if p = 0 ∨ n ≤ p then n else n + 1 := by
  unfold tx
  split
  · exact dg_length a n
  · simp [dg_length]; omega

/-- A round at which the point is written. -/
theorem tx_point (a p : Nat) (hp : 0 < p) : tx a p (p + 1) = (48 + ((a / 10 ^ p % 10 : Nat) : Int)) :: 46 :: tx a p p := by
  have h1 : ¬ (p = 0 ∨ p + 1 ≤ p) := by omega
  have h2 : p = 0 ∨ p ≤ p := by omega
  rw [tx, if_neg h1, tx, if_pos h2]
  have h3 : p + 1 - p = 0 + 1 := by omega
  rw [h3, dg_cons]
  simp [dg]

/-- A round at which no point is written. -/
theorem tx_plain (a p n : Nat) (h : ¬ (n = p ∧ 0 < p)) : tx a p (n + 1) = (48 + ((a / 10 ^ n % 10 : Nat) : Int)) :: tx a p n := by
  by_cases h1 : p = 0 ∨ n + 1 ≤ p
  · have h2 : p = 0 ∨ n ≤ p := by omega
    rw [tx, if_pos h1, tx, if_pos h2, dg_cons]
  · have h2 : ¬ (p = 0 ∨ n ≤ p) := by omega
    rw [tx, if_neg h1, tx, if_neg h2]
    have h3 : n + 1 - p = (n - p) + 1 := by omega
    rw [h3, dg_cons, List.cons_append, Nat.div_div_eq_div_mul, ← Nat.pow_add]
    have h4 : p + (n - p) = n := by omega
    rw [h4]

/-- The number of digits written: the least n above p at which nothing of a is left. -/
def isLast (a p n : Nat) : Prop := p < n ∧ a / 10 ^ n = 0 ∧ (n = p + 1 ∨ 0 < a / 10 ^ (n - 1))

theorem div_pow_zero_mono (a m n : Nat) (h : m ≤ n) (hz : a / 10 ^ m = 0) : a / 10 ^ n = 0 := by
  obtain ⟨k, rfl⟩ := Nat.exists_eq_add_of_le h
  rw [Nat.pow_add, ← Nat.div_div_eq_div_mul, hz, Nat.zero_div]

theorem isLast_unique (a p n m : Nat) (h1 : isLast a p n) (h2 : isLast a p m) : n = m := by
  obtain ⟨a1, a2, a3⟩ := h1
  obtain ⟨b1, b2, b3⟩ := h2
  rcases Nat.lt_trichotomy n m with h | h | h
  · rcases b3 with b3 | b3
    · omega
    · have := div_pow_zero_mono a n (m - 1) (by omega) a2; omega
  · exact h
  · rcases a3 with a3 | a3
    · omega
    · have := div_pow_zero_mono a m (n - 1) (by omega) b2; omega

theorem isLast_le (a p n N : Nat) (h : isLast a p n) (hp : p < N) (hz : a / 10 ^ N = 0) : n ≤ N := by
  obtain ⟨a1, a2, a3⟩ := h
  rcases a3 with a3 | a3
  · omega
  · by_cases h : n ≤ N
    · exact h
    · have := div_pow_zero_mono a N (n - 1) (by omega) hz; omega

/-- The whole text: a sign, then the digits with the point. -/
def fx (neg : Bool) (a p n : Nat) : List Int := (if neg then [45] else []) ++ tx a p n

theorem fx_length (neg : Bool) (a p n : Nat) : (fx neg a p n).length = (if neg then 1 else 0) + if p = 0 ∨ n ≤ p then n else n + 1 := by
  unfold fx
  rw [List.length_append, tx_length]
  cases neg <;> simp

theorem fx_length_le (neg : Bool) (a p n : Nat) (hn : n ≤ 19) : (fx neg a p n).length ≤ 21 := by
  rw [fx_length]
  split <;> split <;> omega

theorem tx_byte (a p n : Nat) : ∀ x ∈ tx a p n, 46 ≤ x ∧ x ≤ 57 := by
  unfold tx
  split
  · intro x hx; have := dg_digit _ _ x hx; omega
  · intro x hx
    rw [List.mem_append] at hx
    rcases hx with hx | hx
    · have := dg_digit _ _ x hx; omega
    · rcases List.mem_cons.1 hx with hx | hx
      · omega
      · have := dg_digit _ _ x hx; omega

theorem fx_byte (neg : Bool) (a p n : Nat) : ∀ x ∈ fx neg a p n, 45 ≤ x ∧ x ≤ 57 := by
  intro x hx
  rw [fx, List.mem_append] at hx
  rcases hx with hx | hx
  · cases neg <;> simp at hx; omega
  · have := tx_byte a p n x hx; omega

/-! ### One more decimal -/
theorem dg_ten (a k : Nat) : dg (a * 10) (k + 1) = dg a k ++ [48] := by
  rw [dg]
  have h1 : a * 10 / 10 = a := by omega
  have h2 : a * 10 % 10 = 0 := by omega
  rw [h1, h2]; rfl

theorem isLast_ten (a p n : Nat) (h : isLast a p n) : isLast (a * 10) (p + 1) (n + 1) := by
  obtain ⟨a1, a2, a3⟩ := h
  have e : ∀ k, a * 10 / 10 ^ (k + 1) = a / 10 ^ k := by
    intro k
    rw [Nat.pow_succ, Nat.mul_comm (10 ^ k) 10, ← Nat.div_div_eq_div_mul]
    have h1 : a * 10 / 10 = a := by omega
    rw [h1]
  refine ⟨by omega, by rw [e]; exact a2, ?_⟩
  rcases a3 with a3 | a3
  · exact .inl (by omega)
  · refine .inr ?_
    have h2 : n + 1 - 1 = (n - 1) + 1 := by omega
    rw [h2, e]; exact a3

/-- The long text: the short one, a point where there was none, a nought. -/
theorem tx_ten (a p n : Nat) (hn : p < n) : tx (a * 10) (p + 1) (n + 1) = tx a p n ++ if p = 0 then [46, 48] else [48] := by
  have h1 : ¬ (p + 1 = 0 ∨ n + 1 ≤ p + 1) := by omega
  have e : a * 10 / 10 ^ (p + 1) = a / 10 ^ p := by
    rw [Nat.pow_succ, Nat.mul_comm (10 ^ p) 10, ← Nat.div_div_eq_div_mul]
    have h1 : a * 10 / 10 = a := by omega
    rw [h1]
  have h2 : n + 1 - (p + 1) = n - p := by omega
  rw [tx, if_neg h1, e, h2, dg_ten]
  by_cases hp : p = 0
  · subst hp
    rw [tx, if_pos (.inl rfl), if_pos rfl]
    simp [dg]
  · have h3 : ¬ (p = 0 ∨ n ≤ p) := by omega
    rw [tx, if_neg h3, if_neg hp]
    simp

theorem fx_ten (neg : Bool) (a p n m : Nat) (h : isLast a p n) (h' : isLast (a * 10) (p + 1) m) :
    fx neg (a * 10) (p + 1) m = fx neg a p n ++ if p = 0 then [46, 48] else [48] := by
  obtain rfl := isLast_unique _ _ _ _ h' (isLast_ten a p n h)
  rw [fx, tx_ten a p n h.1, fx, List.append_assoc]

end Go.Proofs.Qxb6603215a
