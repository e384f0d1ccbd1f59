/-
  modeOK.
-/
import Derived.Test.Qxb6605463aJoins
import Derived.Test.Qxb6605463aLaw4
namespace Go.Proofs.Qxb6605463a
open Go.RowKit

/-- Cut t of the groups. -/
def Cut (u : ByteArray) (n p s : Nat) (mg : Int) (t : Nat) : Nat := if wholeB u n p mg then (if t = 0 then 0 else n) else E n p s (J n p s + 1 - t)

theorem GL_pos (u : ByteArray) (n p s : Nat) (mg : Int) : 1 ≤ GL u n p s mg := by
  unfold GL; split <;> omega

theorem cut_zero (u : ByteArray) (n p s : Nat) (mg : Int) (hps : 0 < p → 0 < s) : Cut u n p s mg 0 = 0 := by
  unfold Cut
  cases hw : wholeB u n p mg with
  | true => simp
  | false =>
    unfold wholeB at hw
    simp only [Bool.or_eq_false_iff] at hw
    have : ¬ p = 0 := by simpa using hw.1.2
    simp only [Bool.false_eq_true, if_false, Nat.sub_zero]
    exact E_J n p s (hps (by omega))

theorem cut_end (u : ByteArray) (n p s : Nat) (mg : Int) : Cut u n p s mg (GL u n p s mg) = n := by
  unfold Cut GL
  cases hw : wholeB u n p mg with
  | true => simp
  | false =>
    simp only [Bool.false_eq_true, if_false, Nat.sub_self]
    rfl

theorem cut_le (u : ByteArray) (n p s : Nat) (mg : Int) (t : Nat) : Cut u n p s mg t ≤ n := by
  unfold Cut
  cases hw : wholeB u n p mg with
  | true => simp; split <;> omega
  | false => simp only [Bool.false_eq_true, if_false]; exact E_le_n n p s _

theorem cut_mono (u : ByteArray) (n p s : Nat) (mg : Int) (t : Nat) (ht : t < GL u n p s mg) : Cut u n p s mg t ≤ Cut u n p s mg (t + 1) := by
  unfold Cut
  unfold GL at ht
  cases hw : wholeB u n p mg with
  | true => simp; split <;> omega
  | false =>
    rw [hw] at ht
    simp only [Bool.false_eq_true, if_false] at ht ⊢
    have e : J n p s + 1 - t = (J n p s + 1 - (t + 1)) + 1 := by omega
    rw [e]
    exact E_le n p s _

theorem GS_cut (u d : ByteArray) (p s : Nat) (mg : Int) (t : Nat) (ht : t < GL u d.size p s mg) : GS u d p s mg t = d.extract (Cut u d.size p s mg t) (Cut u d.size p s mg (t + 1)) := by
  unfold GS Cut
  unfold GL at ht
  cases hw : wholeB u d.size p mg with
  | true =>
    rw [hw] at ht
    simp only [if_true] at ht ⊢
    obtain rfl : t = 0 := by omega
    simp
  | false =>
    simp only [Bool.false_eq_true, if_false]
    rw [show J d.size p s + 1 - (t + 1) = J d.size p s - t by omega]

theorem GL_le_always (u : ByteArray) (n p s : Nat) (mg : Int) : GL u n p s mg ≤ GL ⟨#[97, 108, 119, 97, 121, 115]⟩ n p s mg := by
  have h1 := GL_pos ⟨#[97, 108, 119, 97, 121, 115]⟩ n p s mg
  have hn : ((⟨#[97, 108, 119, 97, 121, 115]⟩ : ByteArray).toList == [110, 101, 118, 101, 114]) = false := by rw [Lib.toList_data]; decide
  have ha : ((⟨#[97, 108, 119, 97, 121, 115]⟩ : ByteArray).toList == [97, 108, 119, 97, 121, 115]) = true := by rw [Lib.toList_data]; decide
  cases hw : wholeB u n p mg with
  | true => unfold GL at *; rw [hw]; exact h1
  | false =>
    have e : GL u n p s mg = J n p s + 1 := by unfold GL; rw [hw]; rfl
    cases hw2 : wholeB ⟨#[97, 108, 119, 97, 121, 115]⟩ n p mg with
    | false =>
      have e2 : GL ⟨#[97, 108, 119, 97, 121, 115]⟩ n p s mg = J n p s + 1 := by unfold GL; rw [hw2]; rfl
      omega
    | true =>
      have e2 : GL ⟨#[97, 108, 119, 97, 121, 115]⟩ n p s mg = 1 := by unfold GL; rw [hw2]; rfl
      unfold wholeB least at hw2
      unfold wholeB at hw
      rw [hn, ha] at hw2
      simp only [Bool.or_eq_false_iff] at hw
      have hp : ¬ p = 0 := by simpa using hw.1.2
      simp [hp] at hw2
      have eJ : J n p s = 0 := by unfold J; rw [if_pos (by omega)]
      omega

theorem GL_never (n p s : Nat) (mg : Int) : GL ⟨#[110, 101, 118, 101, 114]⟩ n p s mg = 1 := by
  have hn : ((⟨#[110, 101, 118, 101, 114]⟩ : ByteArray).toList == [110, 101, 118, 101, 114]) = true := by rw [Lib.toList_data]; decide
  unfold GL wholeB
  rw [hn]
  rfl

set_option maxRecDepth 100000 in
set_option maxHeartbeats 2000000 in
theorem mode17 (x0 : Int) (x1 x2 x3 : Bool) (x4 x5 x6 x7 x8 x9 : Int) (x10 : Bool) (x11 u0 u : ByteArray) (y0 : Int) (y1 y2 : ByteArray) (p s : Nat) (mg : Int) (y6 y7 y8 y9 : ByteArray) (d : ByteArray) (nA : Nat) (w : World)
    (hd : d.size ≤ 65536) (hp : p ≤ 536870912) (hs : s ≤ 536870912) (hps : 0 < p → 0 < s) (hm1 : -536870912 ≤ mg) (hm2 : mg ≤ 536870912) (hA : GL u d.size p s mg ≤ nA) :
    Calls Try.prog 17 #[setV x0 x1 x2 x3 x4 x5 x6 x7 x8 x9 x10 x11 u0, .string u, .string d, symV y0 y1 y2 p s mg y6 y7 y8 y9, .int .i64 nA] w fun e w' => e = .returned (.bool true) ∧ Below w.heap.size w w' := by
  have HP : Hid (0 < p → 0 < s) := hps
  clear hps
  go_enter Try.func17, Try.ntmps17
  go_wp2_with fail
  refine (callGroups13 x0 x1 x2 x3 x4 x5 x6 x7 x8 x9 x10 x11 u y0 y1 y2 p s mg y6 y7 y8 y9 d _ hd hp hs HP.out hm1 hm2).mono ?_
  rintro e w5 ⟨a5, c5, rfl, hb5, hc5⟩
  have hg := GL_le u d.size p s mg
  have hg1 := GL_pos u d.size p s mg
  have hb : Below w.heap.size w w5 := below_all ((((Below.refl _ _).alloc (Nat.le_refl _) _).alloc (by simp) _).alloc (by simp; omega) _) hb5
  have hcc : Cells w5 a5 (GL u d.size p s mg) (fun t => .string (d.extract (Cut u d.size p s mg t) (Cut u d.size p s mg (t + 1)))) := by
    intro hn
    obtain ⟨b, off, ha, hcell⟩ := hc5 hn
    exact ⟨b, off, ha, fun i hi => by rw [hcell i hi]; dsimp only; rw [GS_cut u d p s mg i hi]⟩
  have q0 := cut_zero u d.size p s mg HP.out
  have q1 := cut_end u d.size p s mg
  have q2 := cut_mono u d.size p s mg
  have q3 := cut_le u d.size p s mg
  have HQ : Hid (Cut u d.size p s mg 0 = 0 ∧ Cut u d.size p s mg (GL u d.size p s mg) = d.size ∧ (∀ t, t < GL u d.size p s mg → Cut u d.size p s mg t ≤ Cut u d.size p s mg (t + 1)) ∧ ∀ t, Cut u d.size p s mg t ≤ d.size) := ⟨q0, q1, q2, q3⟩
  clear hc5 hb5 q0 q1 q2 q3
  generalize GL u d.size p s mg = L at *
  have l1 : (1 : Int) ≤ (L : Int) := by omega
  have l2 : (L : Int) ≤ (nA : Int) := by omega
  go_wp2_with fail
  refine (joins20 a5 L c5 d (Cut u d.size p s mg) _ (by omega) hd HQ.out.1 HQ.out.2.1 HQ.out.2.2.1 (fun t _ => HQ.out.2.2.2 t) hcc).mono ?_
  rintro e w6 ⟨rfl, hb6⟩
  clear hcc
  go_wp2
  go_ret
  exact ⟨rfl, below_all hb hb6⟩

end Go.Proofs.Qxb6605463a
