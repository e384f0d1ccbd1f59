/-
  slices.Reverse at []string, on a row of the call's own.
-/
import Derived.Test.Qxb6605463aKit
import Derived.RegionTactic
import Derived.BigRegion
import Derived.Deep.RegionHeld3
namespace Go.Proofs.Qxb6605463a
open Go.RowKit

theorem grown_set {w wr : World} {g : Nat} (h : w.grownBy wr (some g)) (i : Nat) (v : Value) : w.grownBy (wr.setCell ⟨g, i, none⟩ v) (some g) :=
  ⟨h.os, h.tape, h.output, by simpa [World.setCell] using h.size, fun k hk hne => by
    rw [Below.heap_setCell _ _ _ _ (fun e => hne (by rw [e]))]
    exact h.block k hk hne⟩
theorem grown_drew {w wr : World} {g : Nat} (h : w.grownBy wr (some g)) : w.grownBy wr.drew (some g) := ⟨h.os, h.tape, h.output, h.size, h.block⟩

theorem rev_step {w : World} {g n k : Nat} {S : Nat → ByteArray} (hk : k + k < n) (h : Row w g n (fun t => if t < k ∨ n - k ≤ t then S (n - 1 - t) else S t)) :
    Row ((w.setCell ⟨g, k, none⟩ (.string (S (n - 1 - k)))).setCell ⟨g, n - 1 - k, none⟩ (.string (S k))) g n (fun t => if t < k + 1 ∨ n - (k + 1) ≤ t then S (n - 1 - t) else S t) := by
  refine ((h.set k _).set (n - 1 - k) _).congr fun i hi => ?_
  by_cases e : i = n - 1 - k
  · subst e
    rw [if_pos rfl, if_pos (by omega)]
    congr 1; omega
  · by_cases e' : i = k
    · subst e'
      rw [if_neg e, if_pos rfl, if_pos (by omega)]
    · rw [if_neg e, if_neg e']
      by_cases c : i < k ∨ n - k ≤ i
      · rw [if_pos c, if_pos (by omega)]
      · rw [if_neg c, if_neg (by omega)]

set_option maxHeartbeats 1000000 in
theorem reverse26 (g n cap : Nat) (S : Nat → ByteArray) (w : World) (hn : n ≤ 1000000) (hn0 : 0 < n) (h : Row w g n S) :
    Calls Try.prog 26 #[.slice (some ⟨g, 0, none⟩) n cap] w fun e w' => e = .returned (.tuple #[]) ∧ w.grownBy w' (some g) ∧ Row w' g n (fun t => S (n - 1 - t)) := by
  go_enter Try.func26, Try.ntmps26
  go_wp2
  go_loopw [2, 3] (fun i j wr => ∃ k : Nat, k + k ≤ n ∧ i = .int .i64 k ∧ j = .int .i64 ((n : Int) - 1 - k) ∧ Row wr g n (fun t => if t < k ∨ n - k ≤ t then S (n - 1 - t) else S t) ∧ w.grownBy wr (some g)) (fun i _ _ => n - (intOf i).toNat)
  case atStart => exact ⟨0, by omega, rfl, by simp, h.congr (fun i hi => by rw [if_neg (by omega)]), World.grownBy.refl _ _⟩
  case round =>
    obtain ⟨k, hk, rfl, rfl, hrow, hgr⟩ := hrel
    by_cases hlt : k + k + 1 < n
    · have ej : ((n : Int) - 1 - k) = ((n - 1 - k : Nat) : Int) := by omega
      have g1 : wr.cell? ⟨g, k, none⟩ = some (.string (S k)) := by rw [hrow.cell (by omega), if_neg (by omega)]
      have g2 : wr.cell? ⟨g, n - 1 - k, none⟩ = some (.string (S (n - 1 - k))) := by rw [hrow.cell (by omega), if_neg (by omega)]
      have z1 := hrow.frozen k
      have z2 := hrow.frozen (n - 1 - k)
      rw [ej]
      generalize hj : n - 1 - k = j at *
      have R : Hid (Row wr g n (fun t => if t < k ∨ n - k ≤ t then S (n - 1 - t) else S t) ∧ w.grownBy wr (some g) ∧ n - 1 - k = j) := ⟨hrow, hgr, hj⟩
      have l1 : (k : Int) < (j : Int) := by omega
      have l2 : (j : Int) < (n : Int) := by omega
      have l3 : (k : Int) < (n : Int) := by omega
      have l4 : ¬ k = j := by omega
      have l5 : ¬ j = k := by omega
      clear hrow hgr hj ej
      go_wp2
      go_region
      go_wp2
      go_roundw
      case rel =>
        obtain ⟨hrow, hgr, hj⟩ := R.out
        subst hj
        refine ⟨k + 1, by omega, by go_num, ?_, ?_, ?_⟩
        · congr 1; omega
        · exact rev_step (by omega) hrow
        · exact grown_drew (grown_set (grown_set hgr _ _) _ _)
      case measure => simp [intOf]; omega
    · have hmid : Row wr g n (fun t => S (n - 1 - t)) := hrow.congr fun t ht => by
        by_cases c : t < k ∨ n - k ≤ t
        · rw [if_pos c]
        · rw [if_neg c]; congr 1; omega
      clear hrow
      go_wp2
      go_end0
      exact ⟨rfl, hgr, hmid⟩

end Go.Proofs.Qxb6605463a
