/-
  The plain mathematics of the groups: no Go in sight.
-/
namespace Go.Proofs.Qxb6605463a

/-- The end of what is left behind j groups, taken from the right: the first has p digits, the others s each. -/
def E (n p s : Nat) : Nat → Nat
  | 0 => n
  | j + 1 => n - p - j * s

/-- The size of group j, counted from the right. -/
def sz (p s : Nat) : Nat → Nat
  | 0 => p
  | _ + 1 => s

theorem E_succ (n p s j : Nat) : E n p s (j + 1) = E n p s j - sz p s j := by
  cases j with
  | zero => simp [E, sz]
  | succ j => simp only [E, sz, Nat.add_mul, Nat.one_mul]; omega

/-- How many groups there are beside the leftmost. -/
def J (n p s : Nat) : Nat := if n ≤ p then 0 else (n - p - 1) / s + 1

theorem J_of (n p s j : Nat) (hs : 0 < s) (hgo : ∀ i, i < j → sz p s i < E n p s i) (hend : E n p s j ≤ sz p s j) : j = J n p s := by
  unfold J
  cases j with
  | zero => simp [E, sz] at hend; simp [hend]
  | succ j =>
    have h0 := hgo 0 (by omega)
    simp [E, sz] at h0
    rw [if_neg (by omega)]
    simp only [E, sz] at hend
    have e : (n - p - 1) / s = j := by
      refine Nat.div_eq_of_lt_le ?_ ?_
      · cases j with
        | zero => omega
        | succ i =>
          have := hgo (i + 1) (by omega)
          simp only [E, sz] at this
          have e : (i + 1) * s = i * s + s := by rw [Nat.add_mul]; omega
          omega
      · have : (j + 1) * s = j * s + s := by rw [Nat.add_mul]; omega
        omega
    omega

theorem E_le (n p s j : Nat) : E n p s (j + 1) ≤ E n p s j := by rw [E_succ]; omega
theorem E_le_n (n p s j : Nat) : E n p s j ≤ n := by
  cases j with
  | zero => exact Nat.le_refl _
  | succ j => simp only [E]; omega
theorem J_end (n p s : Nat) (hs : 0 < s) : E n p s (J n p s) ≤ sz p s (J n p s) := by
  unfold J
  by_cases h : n ≤ p
  · rw [if_pos h]; simpa [E, sz] using h
  · rw [if_neg h]
    simp only [E, sz]
    have h1 := Nat.div_add_mod (n - p - 1) s
    have h2 := Nat.mod_lt (n - p - 1) hs
    have h3 : (n - p - 1) / s * s = s * ((n - p - 1) / s) := Nat.mul_comm _ _
    omega
theorem E_J (n p s : Nat) (hs : 0 < s) : E n p s (J n p s + 1) = 0 := by
  rw [E_succ]
  have := J_end n p s hs
  omega

end Go.Proofs.Qxb6605463a
