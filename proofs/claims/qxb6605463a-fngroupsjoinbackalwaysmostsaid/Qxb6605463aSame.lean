/-
  The model says what groups says; sameStrings.
-/
import Derived.Test.Qxb6605463aModel2
import Derived.Lib.Strings
namespace Go.Proofs.Qxb6605463a
open Go.RowKit

theorem extract_all (d : ByteArray) : d.extract 0 d.size = d := by
  rw [Lib.extract_eq]
  cases d with
  | mk a =>
    simp [ByteArray.size]
    rw [List.take_of_length_le (by simp)]

theorem C_is_E (n p s r f k t : Nat) (hr : r + p = n) (hf : f + k * s = r) (hf2 : f ≤ s) (ht : t ≤ k + 2) : C n f s k t = E n p s (k + 2 - t) := by
  unfold C
  by_cases h0 : t = 0
  · subst h0
    rw [if_pos rfl]
    show 0 = n - p - (k + 1) * s
    rw [Nat.add_mul]
    omega
  · rw [if_neg h0]
    by_cases h1 : t ≤ k + 1
    · rw [if_pos h1]
      obtain ⟨i, rfl⟩ : ∃ i, t = i + 1 := ⟨t - 1, by omega⟩
      rw [show k + 2 - (i + 1) = (k - i) + 1 by omega]
      show f + (i + 1 - 1) * s = n - p - (k - i) * s
      have e : k * s = (k - i) * s + i * s := by rw [← Nat.add_mul]; congr 1; omega
      rw [show i + 1 - 1 = i by omega]
      omega
    · rw [if_neg h1, show k + 2 - t = 0 by omega]
      rfl

theorem Strs.congr {w w' : World} {e : Ending} {n : Nat} {S T : Nat → ByteArray} (h : Strs w w' e n S) (hst : ∀ t, t < n → S t = T t) : Strs w w' e n T := by
  obtain ⟨a, c, he, hb, hc⟩ := h
  refine ⟨a, c, he, hb, fun hn => ?_⟩
  obtain ⟨b, off, ha, hcc⟩ := hc hn
  exact ⟨b, off, ha, fun i hi => by rw [hcc i hi]; dsimp only; rw [hst i hi]⟩

theorem model14 (u d : ByteArray) (p s : Nat) (mg : Int) (w : World) (hd : d.size ≤ 65536) (hp : p ≤ 536870912) (hs : s ≤ 536870912) (hps : 0 < p → 0 < s) (hm1 : -536870912 ≤ mg) (hm2 : mg ≤ 536870912) :
    Calls Try.prog 14 #[.string u, .string d, .int .i64 p, .int .i64 s, .int .i64 mg] w fun e w' => Strs w w' e (GL u d.size p s mg) (GS u d p s mg) := by
  cases hw : wholeB u d.size p mg with
  | true =>
    have e1 : GL u d.size p s mg = 1 := by simp [GL, hw]
    have e2 : GS u d p s mg = fun _ => d := by funext t; simp [GS, hw]
    rw [e1, e2]
    refine model_no u d p s mg w hd hp hm1 hm2 ?_
    unfold wholeB at hw
    simp only [Bool.or_eq_true, beq_iff_eq, decide_eq_true_eq] at hw
    rcases hw with (h | h) | h
    · exact .inl (by simpa using h)
    · exact .inr (.inl h)
    · exact .inr (.inr (.inr h))
  | false =>
    have e1 : GL u d.size p s mg = J d.size p s + 1 := by simp [GL, hw]
    have e2 : GS u d p s mg = fun t => d.extract (E d.size p s (J d.size p s + 1 - t)) (E d.size p s (J d.size p s - t)) := by funext t; simp [GS, hw]
    rw [e1, e2]
    unfold wholeB at hw
    simp only [Bool.or_eq_false_iff, decide_eq_false_iff_not] at hw
    obtain ⟨⟨hN, hp0⟩, hl⟩ := hw
    have hp0' : 0 < p := by
      have : ¬ p = 0 := by simpa using hp0
      omega
    have hs0 := hps hp0'
    by_cases hnp : d.size ≤ p
    · have eJ : J d.size p s = 0 := by simp [J, hnp]
      rw [eJ]
      refine (model_no u d p s mg w hd hp hm1 hm2 (.inr (.inr (.inl hnp)))).mono fun e w' h => h.congr fun t ht => ?_
      obtain rfl : t = 0 := by omega
      show d = d.extract (d.size - p - 0 * s) d.size
      rw [show d.size - p - 0 * s = 0 by omega, extract_all]
    · obtain ⟨r, hr⟩ : ∃ r, r + p = d.size := ⟨d.size - p, by omega⟩
      have hk1 := Nat.div_add_mod (r - 1) s
      have hk2 := Nat.mod_lt (r - 1) hs0
      have eJ : J d.size p s = (r - 1) / s + 1 := by rw [J, if_neg hnp, show d.size - p - 1 = r - 1 by omega]
      rw [eJ]
      generalize (r - 1) / s = k at *
      generalize (r - 1) % s = f0 at *
      have hf : f0 + 1 + k * s = r := by rw [Nat.mul_comm k s]; omega
      refine (model_yes u d p s r (f0 + 1) k mg w hd hp hs hp0' hs0 hm1 hm2 hr (by omega) hf (by omega) (by omega) hN ?_).mono fun e w' h => h.congr fun t ht => ?_
      · unfold least at hl
        rcases modes u.toList with ⟨a, b, c⟩ | ⟨a, b, c⟩ | ⟨a, b, c⟩ | ⟨a, b, c⟩
        · exact .inl ⟨a, b, by omega⟩
        · rw [a, b] at hl
          simp at hl
          by_cases e : mg < 2
          · exact .inr (.inl ⟨a, b, e, by omega⟩)
          · exact .inr (.inr (.inl ⟨a, b, by omega, by omega⟩))
        · rw [c] at hN; cases hN
        · rw [a, b] at hl
          simp at hl
          exact .inr (.inr (.inr ⟨a, b, by omega⟩))
      · rw [piece, C_is_E d.size p s r (f0 + 1) k t hr hf (by omega) (by omega), C_is_E d.size p s r (f0 + 1) k (t + 1) hr hf (by omega) (by omega)]
        rw [show k + 1 + 1 - t = k + 2 - t by omega, show k + 1 - t = k + 2 - (t + 1) by omega]

set_option maxRecDepth 100000 in
set_option maxHeartbeats 1000000 in
theorem same15 (a b : Option Addr) (n c1 c2 : Nat) (S : Nat → ByteArray) (w : World) (hn : n ≤ 9223372036854775806) (ha : Cells w a n (fun i => .string (S i))) (hb : Cells w b n (fun i => .string (S i))) :
    Calls Try.prog 15 #[.slice a n c1, .slice b n c2] w fun e w' => e = .returned (.bool true) ∧ Below w.heap.size w w' := by
  go_enter Try.func15, Try.ntmps15
  go_wp2
  go_loopw [5] (fun i wr => ∃ k q : Nat, k ≤ n ∧ i = .int .i64 k ∧ wr = w.drewN q) (fun i _ => n - (intOf i).toNat)
  case atStart => exact ⟨0, 0, Nat.zero_le _, rfl, rfl⟩
  case round =>
    obtain ⟨k, q, hk, rfl, rfl⟩ := hrel
    by_cases hlt : k < n
    · obtain ⟨b1, o1, rfl, u1⟩ := ha (by omega)
      obtain ⟨b2, o2, rfl, u2⟩ := hb (by omega)
      have v1 := u1 k hlt
      have v2 := u2 k hlt
      have b00 : (0 : Int) ≤ (k : Int) := by omega
      have b01 : (k : Int) < (n : Int) := by omega
      clear u1 u2 ha hb
      go_wp2
      go_quiet (fail)
      go_wp2
      go_roundw
      case rel => exact ⟨k + 1, _, by omega, by go_num, rfl⟩
      case measure => simp [intOf]; omega
    · go_wp2
      go_ret
      exact ⟨rfl, below_drewN w q⟩

end Go.Proofs.Qxb6605463a
