/-
  The plain mathematics of the ring: powers of two, places, counts. No Go in sight.
-/
namespace Go.Proofs.Qxb6605552a

theorem pow_of_and (L : Nat) (hL : 0 < L) (h : L &&& (L - 1) = 0) : ∃ k, L = 2 ^ k := by
  refine ⟨L.log2, ?_⟩
  have h1 : 2 ^ L.log2 ≤ L := Nat.log2_self_le (by omega)
  have h2 : L < 2 ^ (L.log2 + 1) := Nat.lt_log2_self
  by_cases e : L = 2 ^ L.log2
  · exact e
  · exfalso
    have hb : ∀ x, 2 ^ L.log2 ≤ x → x < 2 ^ (L.log2 + 1) → x.testBit L.log2 = true := by
      intro x hx1 hx2
      rw [Nat.testBit_eq_decide_div_mod_eq]
      have hp : 0 < 2 ^ L.log2 := Nat.two_pow_pos _
      have : x / 2 ^ L.log2 = 1 := by
        refine Nat.div_eq_of_lt_le ?_ ?_
        · omega
        · rw [Nat.pow_succ] at hx2; omega
      rw [this]
      rfl
    have c1 := hb L h1 h2
    have c2 := hb (L - 1) (by omega) (by omega)
    have : (L &&& (L - 1)).testBit L.log2 = true := by rw [Nat.testBit_and, c1, c2]; rfl
    rw [h] at this
    simp at this

theorem and_mask (L x : Nat) (h : ∃ k, L = 2 ^ k) : x &&& (L - 1) = x % L := by
  obtain ⟨k, rfl⟩ := h
  exact Nat.and_two_pow_sub_one_eq_mod x k

/-- The new length of a full ring. -/
def grow (L : Nat) : Nat := if 64 < 2 * L then 2 * L else 64

theorem grow_pow (L : Nat) (h : L = 0 ∨ ∃ k, L = 2 ^ k) : ∃ k, grow L = 2 ^ k := by
  unfold grow
  split
  · rcases h with rfl | ⟨k, rfl⟩
    · omega
    · exact ⟨k + 1, by rw [Nat.pow_succ]; omega⟩
  · exact ⟨6, rfl⟩

theorem grow_gt (L : Nat) : L < grow L := by unfold grow; split <;> omega
theorem grow_ge (L : Nat) : 64 ≤ grow L := by unfold grow; split <;> omega
theorem grow_le (L : Nat) (h : L ≤ 65536) : grow L ≤ 131072 := by unfold grow; split <;> omega

/-- The place of the ring (base b, length L) at which s lies, counted from the base. -/
def idx (b L s : Nat) : Nat := (s + L - b) % L

theorem idx_lt (b L s : Nat) (hL : 0 < L) : idx b L s < L := Nat.mod_lt _ hL

theorem mod_two (x L : Nat) (h : x < L + L) : x % L = if x < L then x else x - L := by
  split
  · exact Nat.mod_eq_of_lt ‹_›
  · rw [Nat.mod_eq_sub_mod (by omega), Nat.mod_eq_of_lt (by omega)]

theorem place_idx (b L s : Nat) (hb : b < L) (hs : s < L) : (b + idx b L s) % L = s := by
  unfold idx
  rw [mod_two (s + L - b) L (by omega)]
  split
  · rw [mod_two _ L (by omega)]; split <;> omega
  · rw [mod_two _ L (by omega)]; split <;> omega

theorem idx_place (b L k : Nat) (hb : b < L) (hk : k < L) : idx b L ((b + k) % L) = k := by
  unfold idx
  rw [mod_two (b + k) L (by omega)]
  split
  · rw [mod_two _ L (by omega)]; split <;> omega
  · rw [mod_two _ L (by omega)]; split <;> omega

/-- How many of the first j are messages. -/
def cnt (f : Nat → Int) : Nat → Nat
  | 0 => 0
  | j + 1 => cnt f j + (if 0 ≤ f j then 1 else 0)

theorem cnt_le (f : Nat → Int) (j : Nat) : cnt f j ≤ j := by
  induction j with
  | zero => exact Nat.le_refl _
  | succ j ih => simp only [cnt]; split <;> omega
theorem cnt_mono (f : Nat → Int) (i j : Nat) (h : i ≤ j) : cnt f i ≤ cnt f j := by
  induction j with
  | zero => obtain rfl : i = 0 := by omega
            exact Nat.le_refl _
  | succ j ih =>
    by_cases e : i = j + 1
    · subst e; exact Nat.le_refl _
    · have := ih (by omega)
      simp only [cnt]
      omega
theorem cnt_congr (f g : Nat → Int) (j : Nat) (h : ∀ i, i < j → f i = g i) : cnt f j = cnt g j := by
  induction j with
  | zero => rfl
  | succ j ih => simp only [cnt]; rw [ih (fun i hi => h i (by omega)), h j (by omega)]

/-- d is the first place behind which 'need' messages lie. -/
def First (f : Nat → Int) (need d : Nat) : Prop := need ≤ cnt f d ∧ ∀ i, i < d → cnt f i < need

theorem First.uniq {f : Nat → Int} {need a b : Nat} (ha : First f need a) (hb : First f need b) : a = b := by
  have h1 : ¬ a < b := fun h => by have := hb.2 a h; have := ha.1; omega
  have h2 : ¬ b < a := fun h => by have := ha.2 b h; have := hb.1; omega
  omega

end Go.Proofs.Qxb6605552a
