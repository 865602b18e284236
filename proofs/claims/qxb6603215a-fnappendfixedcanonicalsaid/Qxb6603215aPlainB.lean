/-
  Plain mathematics for the law on appendFixed's canonical text: which byte stands where; what the digits read as.
-/
import Derived.Test.Qxb6603215aPlain
namespace Go.Proofs.Qxb6603215a

theorem getD_left {A B : List Int} {j : Nat} (h : j < A.length) : (A ++ B).getD j 0 = A.getD j 0 := by
  simp only [List.getD_eq_getElem?_getD, List.getElem?_append_left h]
theorem getD_right {A B : List Int} {n j : Nat} (h : A.length = n) : (A ++ B).getD (n + j) 0 = B.getD j 0 := by
  simp only [List.getD_eq_getElem?_getD]
  rw [List.getElem?_append_right (by omega)]
  congr 2; omega

theorem dg_get (a k j : Nat) (h : j < k) : (dg a k).getD j 0 = 48 + ((a / 10 ^ (k - 1 - j) % 10 : Nat) : Int) := by
  induction k generalizing j with
  | zero => omega
  | succ k ih =>
    rw [dg_cons]
    cases j with
    | zero => simp
    | succ j =>
      have e : k + 1 - 1 - (j + 1) = k - 1 - j := by omega
      rw [e, ← ih j (by omega)]
      simp

/-- How many signs stand ahead. -/
def sg (neg : Bool) : Nat := if neg then 1 else 0

theorem tx_split (a p n : Nat) (h : p < n) : tx a p n = dg (a / 10 ^ p) (n - p) ++ if p = 0 then [] else 46 :: dg a p := by
  unfold tx
  by_cases hp : p = 0
  · subst hp; simp
  · rw [if_neg (by omega), if_neg hp]

theorem fx_split (neg : Bool) (a p n : Nat) (h : p < n) : fx neg a p n = (if neg then [45] else []) ++ (dg (a / 10 ^ p) (n - p) ++ if p = 0 then [] else 46 :: dg a p) := by
  rw [fx, tx_split a p n h]

theorem sg_length (neg : Bool) : (if neg then [45] else [] : List Int).length = sg neg := by cases neg <;> rfl

theorem fx_len (neg : Bool) (a p n : Nat) (h : p < n) : (fx neg a p n).length = sg neg + (n - p) + if p = 0 then 0 else p + 1 := by
  rw [fx_split neg a p n h, List.length_append, sg_length, List.length_append, dg_length]
  split <;> simp [dg_length] <;> omega

theorem fx_int (neg : Bool) (a p n j : Nat) (h : p < n) (hj : j < n - p) : (fx neg a p n).getD (sg neg + j) 0 = 48 + ((a / 10 ^ (n - 1 - j) % 10 : Nat) : Int) := by
  rw [fx_split neg a p n h, getD_right (sg_length neg), getD_left (by rw [dg_length]; exact hj), dg_get _ _ _ hj, Nat.div_div_eq_div_mul, ← Nat.pow_add]
  have e : p + (n - p - 1 - j) = n - 1 - j := by omega
  rw [e]

theorem fx_dot (neg : Bool) (a p n : Nat) (h : p < n) (hp : 0 < p) : (fx neg a p n).getD (sg neg + (n - p)) 0 = 46 := by
  have e : n - p = n - p + 0 := rfl
  rw [fx_split neg a p n h, getD_right (sg_length neg)]
  rw [show ((dg (a / 10 ^ p) (n - p) ++ if p = 0 then [] else 46 :: dg a p).getD (n - p) 0) = ((if p = 0 then [] else 46 :: dg a p) : List Int).getD 0 0 from getD_right (j := 0) (dg_length _ _)]
  rw [if_neg (by omega)]; rfl

theorem fx_frac (neg : Bool) (a p n j : Nat) (h : p < n) (hj : j < p) : (fx neg a p n).getD (sg neg + (n - p) + 1 + j) 0 = 48 + ((a / 10 ^ (p - 1 - j) % 10 : Nat) : Int) := by
  have e : sg neg + (n - p) + 1 + j = sg neg + ((n - p) + (1 + j)) := by omega
  rw [e, fx_split neg a p n h, getD_right (sg_length neg), getD_right (dg_length _ _), if_neg (by omega), ← dg_get a p j hj]
  rw [Nat.add_comm 1 j]
  simp

theorem fx_sign (a p n : Nat) : (fx true a p n).getD 0 0 = 45 := by simp [fx]

/-- No nought leads, unless it stands alone. -/
theorem lead (a p n : Nat) (h : isLast a p n) (h1 : 1 < n - p) : 0 < a / 10 ^ (n - 1 - 0) % 10 := by
  obtain ⟨a1, a2, a3⟩ := h
  rcases a3 with a3 | a3
  · omega
  · have e : n = (n - 1) + 1 := by omega
    rw [e, Nat.pow_succ, ← Nat.div_div_eq_div_mul] at a2
    have e2 : n - 1 - 0 = n - 1 := by omega
    rw [e2]
    omega

theorem read_step (a r : Nat) : a / 10 ^ (r + 1) * 10 + a / 10 ^ r % 10 = a / 10 ^ r := by
  rw [Nat.pow_succ, ← Nat.div_div_eq_div_mul]; omega

end Go.Proofs.Qxb6603215a
