/-
  The scanner: fail, peek, literal, more.
-/
import Derived.Test.Qxb6602019aSplit
import Derived.Deep.RegionHeld3
import Derived.Laws.BytesArg
namespace Go.Proofs.Qxb6602019a
open Go.RowKit

/-- The scanner's block lies outside old memory; a slice's address does not lie in it. -/
theorem ne_of_cells {w0 : World} {b b' off : Nat} {v : Value} (h : w0.heap.size ≤ b) (hc : w0.cell? ⟨b', off, none⟩ = some v) : ¬ b = b' := by
  have := World.block_lt_of_cell? w0 _ hc
  simp at this
  omega

theorem isSpace26' (v : Int) (s : Bool) (hs : sp v = s) (w : World) : Calls Try.prog 26 #[.int .u8 v] w fun e w' => e = .returned (.bool s) ∧ w' = w :=
  (isSpace26 v w).mono fun e w' h => ⟨by rw [← hs]; exact h.1, h.2.symm⟩

set_option maxHeartbeats 1000000 in
theorem fail28 (b n c : Nat) (a : Option Addr) (x : Int) (d : Bool) (w0 w : World) (hb : w0.heap.size ≤ b) (hbel : Below w0.heap.size w0 w) (H : SC w b a n c x d) :
    Calls Try.prog 28 #[.pointer (some ⟨b, 0, none⟩)] w fun e w' => e = .returned (.tuple #[]) ∧ SC w' b a n c n true ∧ Below w0.heap.size w0 w' := by
  obtain ⟨c0, c1, c2⟩ := H.cells
  have z1 := H.frozen 1
  have z2 := H.frozen 2
  have R : Hid (SC w b a n c x d ∧ Below w0.heap.size w0 w) := ⟨H, hbel⟩
  clear H hbel
  go_enter Try.func28, Try.ntmps28
  go_wp2
  go_end0
  exact ⟨rfl, (R.out.1.set2 true).set1 n, (R.out.2.setCell hb _).setCell hb _⟩

set_option maxHeartbeats 1000000 in
theorem peek21 (b n c : Nat) (a : Option Addr) (x e : Nat) (d : Bool) (B : Nat → Int) (v : Int) (w0 w : World) (hb : w0.heap.size ≤ b) (hbel : Below w0.heap.size w0 w) (H : SC w b a n c x d)
    (hn : n ≤ 1048576) (hc : Cells w0 a n (fun i => .int .u8 (B i))) (hs : Stop notSp B n x e) (hv : v = if e = n then 0 else B e) :
    Calls Try.prog 21 #[.pointer (some ⟨b, 0, none⟩)] w fun en w' => en = .returned (.int .u8 v) ∧ SC w' b a n c e d ∧ Below w0.heap.size w0 w' := by
  obtain ⟨k1, k2, k3, k4⟩ := hs
  have R : Hid (SC w b a n c x d ∧ Below w0.heap.size w0 w) := ⟨H, hbel⟩
  have HC : Hid (Cells w0 a n (fun i => .int .u8 (B i))) := hc
  clear H hbel hc
  go_enter Try.func21, Try.ntmps21
  go_wp2
  go_loopg [] (e - x) (fun g wr => ∃ k : Nat, g + k = e ∧ x ≤ k ∧ SC wr b a n c k d ∧ Below w0.heap.size w0 wr)
  case atStart => exact ⟨x, by omega, Nat.le_refl _, R.out.1, R.out.2⟩
  case round =>
    obtain ⟨k, hg, hxk, hS, hbel⟩ := hrel
    obtain ⟨c0, c1, c2⟩ := hS.cells
    have z1 := hS.frozen 1
    have RR : Hid (SC wr b a n c k d ∧ Below w0.heap.size w0 wr) := ⟨hS, hbel⟩
    by_cases hke : k < e
    · obtain ⟨b', off, rfl, hcc⟩ := HC.out (by omega)
      have g0 := hcc k (by omega)
      have nb := ne_of_cells hb g0
      have g1 : wr.cell? ⟨b', off + k, none⟩ = some (.int .u8 (B k)) := (hbel.cell (World.block_lt_of_cell? w0 _ g0)).trans g0
      have hsp : sp (B k) = true := by simpa [notSp] using k3 k hxk hke
      have b00 : (0 : Int) ≤ (k : Int) := by omega
      have b01 : (k : Int) < (n : Int) := by omega
      have HS : Hid (sp (B k) = true) := hsp
      clear hcc k3 k4 hS hbel g0 hsp hv R
      go_wp2_with fail
      go_quiet ((go_at_call 26; exact Calls.quiet_of_same (isSpace26' _ true HS.out _)))
      go_wp2
      go_roundg (gk - 1)
      case measure => omega
      case rel => exact ⟨k + 1, by omega, by omega, (RR.out.1.drewN _).set1 _, (RR.out.2.trans (below_drewN _ _ _)).setCell hb _⟩
    · have hke' : k = e := by omega
      have RE : Hid (SC wr b a n c e d) := by unfold Hid; rw [← hke']; exact hS
      by_cases hen : e < n
      · obtain ⟨b', off, rfl, hcc⟩ := HC.out (by omega)
        have g0 := hcc k (by omega)
        have nb := ne_of_cells hb g0
        have g1 : wr.cell? ⟨b', off + k, none⟩ = some (.int .u8 (B k)) := (hbel.cell (World.block_lt_of_cell? w0 _ g0)).trans g0
        have hsp : sp (B k) = false := by
          rw [hke']
          rcases k4 with e' | e'
          · omega
          · simpa [notSp] using e'
        have b00 : (0 : Int) ≤ (k : Int) := by omega
        have b01 : (k : Int) < (n : Int) := by omega
        have b02 : ((k : Int) == (n : Int)) = false := by rw [beq_eq_false_iff_ne]; omega
        have HS : Hid (sp (B k) = false) := hsp
        have HV : Hid (v = B k) := by unfold Hid; rw [hv, if_neg (by omega), hke']
        clear hcc k3 k4 hS hbel g0 hsp hv R hke'
        go_wp2_with fail
        go_quiet ((go_at_call 26; exact Calls.quiet_of_same (isSpace26' _ false HS.out _)))
        go_wp2
        go_quiet (fail)
        go_wp2
        go_quiet (fail)
        go_wp2
        go_ret
        exact ⟨by rw [HV.out]; rfl, ((RE.out.drewN _).drewN _).drewN _, ((RR.out.2.trans (below_drewN _ _ _)).trans (below_drewN _ _ _)).trans (below_drewN _ _ _)⟩
      · have b01 : ¬ k < n := by omega
        have b03 : decide (k < n) = false := decide_eq_false b01
        have b02 : ((k : Int) == (n : Int)) = true := by rw [beq_iff_eq]; omega
        have HV : Hid (v = 0) := by unfold Hid; rw [hv, if_pos (by omega)]
        clear k3 k4 hS hbel hv R hke'
        go_wp2_with fail
        go_quiet (fail)
        go_wp2
        go_quiet (fail)
        go_wp2
        go_ret
        exact ⟨by rw [HV.out]; rfl, (RE.out.drewN _).drewN _, (RR.out.2.trans (below_drewN _ _ _)).trans (below_drewN _ _ _)⟩

end Go.Proofs.Qxb6602019a
