/-
  groupsModel where it groups.
-/
import Derived.Test.Qxb6605463aModel
namespace Go.Proofs.Qxb6605463a
open Go.RowKit

/-- Boundary t of the model's groups, from the left. -/
def C (n f s k t : Nat) : Nat := if t = 0 then 0 else if t ≤ k + 1 then f + (t - 1) * s else n

theorem C_zero (n f s k : Nat) : C n f s k 0 = 0 := rfl
theorem C_mid (n f s k i : Nat) (h : i ≤ k) : C n f s k (i + 1) = f + i * s := by simp [C, h]
theorem C_end (n f s k : Nat) : C n f s k (k + 2) = n := by simp [C]

/-- n strings as cells. -/
def mk (g : Nat → ByteArray) (n : Nat) : List Value := (List.range n).map fun t => .string (g t)
theorem mk_snoc (g : Nat → ByteArray) (n : Nat) : mk g n ++ [.string (g n)] = mk g (n + 1) := range_snoc (fun t => .string (g t)) n
theorem mk_one (g : Nat → ByteArray) : mk g 1 = [.string (g 0)] := rfl

/-- The model's group t. -/
def piece (d : ByteArray) (f s k t : Nat) : ByteArray := d.extract (C d.size f s k t) (C d.size f s k (t + 1))

theorem own_step {w wr w1 : World} {B j : Nat} {v : Value} {xs : List Value} {o : Obj} (hown : wr.ownsRow B 9 1 v j xs) (hbel : Below B w wr) (hB : w.heap.size = B)
    (hgrow : (wr.alloc o).grownBy w1 v.ownBlock) : Below B w w1 := by
  have hl := hown.lt
  have hs := hbel.size
  have hb1 : Below B w (wr.alloc o) := hbel.alloc (by omega) o
  exact hb1.grown hgrow (by simp; omega) (fun k hk => (hl k hk).1)

set_option maxRecDepth 100000 in
set_option maxHeartbeats 2000000 in
theorem model_yes (u d : ByteArray) (p s r f k : Nat) (mg : Int) (w : World) (hd : d.size ≤ 65536) (hp : p ≤ 536870912) (hs : s ≤ 536870912) (hp0 : 0 < p) (hs0 : 0 < s) (hm1 : -536870912 ≤ mg) (hm2 : mg ≤ 536870912)
    (hr : r + p = d.size) (hr0 : 0 < r) (hf : f + k * s = r) (hf1 : 0 < f) (hf2 : f ≤ s)
    (hN : (u.toList == [110, 101, 118, 101, 114]) = false)
    (hmode : ((u.toList == [97, 108, 119, 97, 121, 115]) = true ∧ (u.toList == [109, 105, 110, 50]) = false ∧ (1 : Int) ≤ r) ∨ ((u.toList == [97, 108, 119, 97, 121, 115]) = false ∧ (u.toList == [109, 105, 110, 50]) = true ∧ mg < 2 ∧ 2 ≤ r) ∨
      ((u.toList == [97, 108, 119, 97, 121, 115]) = false ∧ (u.toList == [109, 105, 110, 50]) = true ∧ 2 ≤ mg ∧ mg ≤ r) ∨ ((u.toList == [97, 108, 119, 97, 121, 115]) = false ∧ (u.toList == [109, 105, 110, 50]) = false ∧ mg ≤ r)) :
    Calls Try.prog 14 #[.string u, .string d, .int .i64 p, .int .i64 s, .int .i64 mg] w fun e w' => Strs w w' e (k + 2) (piece d f s k) := by
  have hpz : ((p : Int) == 0) = false := by rw [beq_eq_false_iff_ne]; omega
  have hsz : ((s : Int) == 0) = false := by rw [beq_eq_false_iff_ne]; omega
  obtain ⟨i9, hi, hz0, hz1, hz2⟩ := info_parts info9
  have q1 : (d.size : Int) - (p : Int) = (r : Int) := by omega
  have q2 : ((r : Int) - 1) % (s : Int) + 1 = (f : Int) := by
    have e : ((r : Int) - 1) = ((f - 1 : Nat) : Int) + (k : Int) * (s : Int) := by
      have : ((f + k * s : Nat) : Int) = (r : Int) := by rw [hf]
      rw [Int.natCast_add, Int.natCast_mul] at this
      omega
    rw [e, Int.add_mul_emod_self_right, Int.emod_eq_of_lt (by omega) (by omega)]
    omega
  have q3 : ((r : Int) - (f : Int)) / (s : Int) = (k : Int) := by
    have e : ((r : Int) - (f : Int)) = (k : Int) * (s : Int) := by
      have : ((f + k * s : Nat) : Int) = (r : Int) := by rw [hf]
      rw [Int.natCast_add, Int.natCast_mul] at this
      omega
    rw [e, Int.mul_ediv_cancel _ (by omega)]
  have hks : k ≤ k * s := Nat.le_mul_of_pos_right k hs0
  have l1 : (f : Int) ≤ (r : Int) := by omega
  have l2 : (p : Int) < (d.size : Int) := by omega
  have l3 : (k : Int) ≤ 65536 := by omega
  rcases hmode with ⟨hA, hM, hlv⟩ | ⟨hA, hM, hmg, hlv⟩ | ⟨hA, hM, hmg, hlv⟩ | ⟨hA, hM, hlv⟩
  all_goals
    go_enter Try.func14, Try.ntmps14
    go_wp2_with (at_make; refine wpList_make_own _ rfl _ _ 34 rfl w.heap.size 9 i9 (.string ⟨#[]⟩) 1 Try.underlying34 hi hz0 hz1 _ _ _ (k + 2) rfl rfl ?m1 ?m2 ?m3 ?m4 ?_)
    case m1 => omega
    case m2 => rw [hz2]; omega
    case m3 => unfold maxLen; omega
    case m4 => exact Nat.le_refl _
    intro w1 hown1 hgrow1
    have hb1 : Below w.heap.size w w1 := (Below.refl _ _).grown hgrow1 (Nat.le_refl _) (fun k h => by cases h)
    clear hgrow1
    go_wp2_with (at_builtin; refine wpList_append_own _ rfl _ _ 34 rfl w.heap.size 9 i9 (.string ⟨#[]⟩) 1 16 Try.underlying34 hi hz0 hz1 hz2 rfl (by decide) _ _ _ rfl (hown1.alloc _) ⟨w1.heap.size, 0, none⟩ 1 1 _ rfl rfl (cell_one_new _ _ _) ?c2 ?c3 ?c4 ?c5 ?_)
    case c2 => intro u hu; simp at hu; subst hu; rfl
    case c3 => unfold maxLen; omega
    case c4 => omega
    case c5 => have := hb1.size; simp; omega
    intro v2 w2 hown2 hgrow2 _
    have hb2 := own_step hown1 hb1 rfl hgrow2
    clear hgrow2 hown1 hb1
    go_wp2_with fail
    have HO2 : Hid (w2.ownsRow w.heap.size 9 1 v2 (0 + 1) (mk (piece d f s k) (0 + 1))) := by
      have e : mk (piece d f s k) (0 + 1) = [] ++ [Value.string (d.extract 0 f)] := by
        rw [mk_one, piece, C_zero, C_mid d.size f s k 0 (Nat.zero_le _)]
        simp
      unfold Hid
      rw [e]
      exact hown2
    clear hown2
    go_loopw [16, 17] (fun v i wr => ∃ j : Nat, j ≤ k ∧ i = .int .i64 j ∧ wr.ownsRow w.heap.size 9 1 v (j + 1) (mk (piece d f s k) (j + 1)) ∧ Below w.heap.size w wr) (fun _ i _ => k - (intOf i).toNat)
    case atStart => exact ⟨0, Nat.zero_le _, rfl, HO2.out, hb2⟩
    case round =>
      obtain ⟨j, hj, rfl, hown, hbel⟩ := hrel
      by_cases hlt : j < k
      · obtain ⟨m, hm⟩ : ∃ m, m = j * s := ⟨_, rfl⟩
        have e1 : (j : Int) * (s : Int) = (m : Int) := by rw [hm, Int.natCast_mul]
        have e2 : ((j : Int) + 1) * (s : Int) = (m : Int) + (s : Int) := by rw [Int.add_mul, e1]; omega
        have hms : m + s ≤ k * s := by
          rw [hm]
          have := Nat.mul_le_mul_right s (show j + 1 ≤ k by omega)
          rw [Nat.add_mul] at this
          omega
        have HN2 : Hid (mk (piece d f s k) (j + 1) ++ [Value.string (d.extract (f + m) (f + (m + s)))] = mk (piece d f s k) (j + 1 + 1)) := by
          have := mk_snoc (piece d f s k) (j + 1)
          rw [piece, C_mid d.size f s k j hj, C_mid d.size f s k (j + 1) (by omega), Nat.add_mul, ← hm, Nat.one_mul] at this
          exact this
        have l4 : (f : Int) + (m : Int) + (s : Int) ≤ (d.size : Int) := by omega
        clear hm hms
        go_wp2_with (at_builtin; refine wpList_append_own _ rfl _ _ 34 rfl w.heap.size 9 i9 (.string ⟨#[]⟩) 1 16 Try.underlying34 hi hz0 hz1 hz2 rfl (by decide) _ _ _ rfl (hown.alloc _) ⟨wr.heap.size, 0, none⟩ 1 1 _ rfl rfl (cell_one_new _ _ _) ?d2 ?d3 ?d4 ?d5 ?_)
        case d2 => intro u hu; simp at hu; subst hu; rfl
        case d3 => unfold maxLen; omega
        case d4 => omega
        case d5 => have := hbel.size; simp; omega
        intro v' w3 hown' hgrow _
        have R := own_step hown hbel rfl hgrow
        rw [HN2.out] at hown'
        clear hgrow hown hbel
        have HW : Hid (w3.ownsRow w.heap.size 9 1 v' (j + 1 + 1) (mk (piece d f s k) (j + 1 + 1))) := hown'
        clear hown'
        go_wp2
        go_roundw
        case rel => exact ⟨j + 1, by omega, by go_num, HW.out, R⟩
        case measure => simp [intOf]; omega
      · have : j = k := by omega
        subst this
        have HN2 : Hid (mk (piece d f s j) (j + 1) ++ [Value.string (d.extract r d.size)] = mk (piece d f s j) (j + 1 + 1)) := by
          have := mk_snoc (piece d f s j) (j + 1)
          rw [piece, C_mid d.size f s j j (Nat.le_refl _), C_end, hf] at this
          exact this
        have l5 : (r : Int) ≤ (d.size : Int) := by omega
        go_wp2_with (at_builtin; refine wpList_append_own _ rfl _ _ 34 rfl w.heap.size 9 i9 (.string ⟨#[]⟩) 1 16 Try.underlying34 hi hz0 hz1 hz2 rfl (by decide) _ _ _ rfl (hown.alloc _) ⟨wr.heap.size, 0, none⟩ 1 1 _ rfl rfl (cell_one_new _ _ _) ?e2 ?e3 ?e4 ?e5 ?_)
        case e2 => intro u hu; simp at hu; subst hu; rfl
        case e3 => unfold maxLen; omega
        case e4 => omega
        case e5 => have := hbel.size; simp; omega
        intro v' w3 hown' hgrow _
        have R := own_step hown hbel rfl hgrow
        rw [HN2.out] at hown'
        clear hgrow hown hbel
        obtain ⟨g, cap, hv, hg1, hg2, hrow⟩ := Row.of_owns (S := piece d f s j) hown' (by omega) rfl
        rw [hv]
        clear hv hown'
        go_wp2
        go_ret
        exact ⟨_, _, rfl, R, hrow.cells⟩

end Go.Proofs.Qxb6605463a
