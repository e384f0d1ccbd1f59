/-
  digits and SplitNumber over bytes.
-/
import Derived.Test.Qxb6602019aSmall
import Derived.Deep.DeepCutAuto
namespace Go.Proofs.Qxb6602019a
open Go.RowKit

set_option maxHeartbeats 1000000 in
theorem digits29 (a : Option Addr) (m c : Nat) (F : Nat → Int) (k r : Nat) (w : World) (hm : m ≤ 1048576) (hmc : m ≤ c) (hc : Cells w a m (fun i => .int .u8 (F i))) (hk : Stop notDig F m 0 k) (hr : r + k = m) :
    Calls Try.prog 29 #[.slice a m c] w fun e w' => ∃ a1 c1 a2 c2, e = .returned (.tuple #[.slice a1 k c1, .slice a2 r c2]) ∧ Below w.heap.size w w' ∧ k ≤ c1 ∧ r ≤ c2 ∧
      Cells w' a1 k (fun i => .int .u8 (F i)) ∧ Cells w' a2 r (fun i => .int .u8 (F (k + i))) := by
  obtain ⟨-, k1, k2, k3⟩ := hk
  obtain ⟨a1, c1, s1, s2, s3⟩ := cut_h a m c k (k : Int) rfl k1 hmc
  obtain ⟨a2, c2, t1, t2, t3⟩ := cut_l a m c k r (k : Int) rfl hr hmc
  have X : Hid (Cells w a m (fun i => .int .u8 (F i)) ∧ Cells w a1 k (fun i => .int .u8 (F i)) ∧ Cells w a2 r (fun i => .int .u8 (F (k + i)))) := ⟨hc, s3 _ _ hc, t3 _ _ hc⟩
  clear s3 t3 hc
  go_enter Try.func29, Try.ntmps29
  go_wp2
  go_loop [4] (fun i => ∃ j : Nat, j ≤ k ∧ i = .int .i64 j) (fun i => k - (intOf i).toNat)
  case atStart => exact ⟨0, Nat.zero_le _, rfl⟩
  case round =>
    obtain ⟨j, hj, rfl⟩ := hrel
    by_cases hlt : j < k
    · obtain ⟨b, off, rfl, hcc⟩ := X.out.1 (by omega)
      have g := hcc j (by omega)
      have hd := k2 j (Nat.zero_le _) hlt
      simp only [notDig, Bool.not_eq_false', Bool.and_eq_true, decide_eq_true_eq] at hd
      obtain ⟨d1, d2⟩ := hd
      clear hcc k2 k3
      go_wp2
      go_round
      case rel => exact ⟨j + 1, by omega, by go_num⟩
      case measure => simp [intOf]; omega
    · have : j = k := by omega
      subst this
      by_cases hm0 : j < m
      · obtain ⟨b, off, rfl, hcc⟩ := X.out.1 (by omega)
        have g := hcc j (by omega)
        have hd : notDig (F j) = true := by
          rcases k3 with e | e
          · omega
          · exact e
        have hd2 : ¬ 48 ≤ F j ∨ (48 ≤ F j ∧ ¬ F j ≤ 57) := by
          simp only [notDig, Bool.not_eq_true', Bool.and_eq_false_iff, decide_eq_false_iff_not] at hd
          omega
        clear hcc k2 k3 hd
        rcases hd2 with d1 | ⟨d1, d2⟩
        all_goals
          go_wp2
          go_quiet (fail)
          go_wp2
          go_ret2
          exact ⟨_, _, _, _, rfl, below_drewN _ _ _, s2, t2, X.out.2.1.later (below_drewN _ _ _), X.out.2.2.later (below_drewN _ _ _)⟩
      · clear k2 k3
        go_wp2
        go_quiet (fail)
        go_wp2
        go_ret2
        exact ⟨_, _, _, _, rfl, below_drewN _ _ _, s2, t2, X.out.2.1.later (below_drewN _ _ _), X.out.2.2.later (below_drewN _ _ _)⟩


/-! ### The plain function: is it a number? -/
/-- How far the digits reach from place p on, f places at most. -/
def digGo (G : Nat → Int) : Nat → Nat → Nat
  | 0, p => p
  | f + 1, p => if notDig (G p) = true then p else digGo G f (p + 1)
def dig (G : Nat → Int) (r : Nat) : Nat := digGo G r 0
theorem digGo_stop (G : Nat → Int) : ∀ f p, Stop notDig G (p + f) p (digGo G f p) := by
  intro f
  induction f with
  | zero => exact fun p => ⟨Nat.le_refl _, by simp [digGo], fun i h1 h2 => absurd h2 (by simp [digGo]; omega), .inl (by simp [digGo])⟩
  | succ f ih =>
    intro p
    cases h : notDig (G p) with
    | true =>
      have e : digGo G (f + 1) p = p := by simp [digGo, h]
      rw [e]
      exact ⟨Nat.le_refl _, by omega, fun i h1 h2 => absurd h1 (by omega), .inr h⟩
    | false =>
      have e : digGo G (f + 1) p = digGo G f (p + 1) := by simp [digGo, h]
      rw [e]
      obtain ⟨h1, h2, h3, h4⟩ := ih (p + 1)
      rw [show p + 1 + f = p + (f + 1) by omega] at h2 h4
      refine ⟨by omega, h2, fun i hi hj => ?_, h4⟩
      by_cases q : i = p
      · subst q; exact h
      · exact h3 i (by omega) hj
theorem dig_stop (G : Nat → Int) (r : Nat) : Stop notDig G r 0 (dig G r) := by
  have h := digGo_stop G r 0
  rwa [Nat.zero_add] at h
def sh (G : Nat → Int) (p : Nat) : Nat → Int := fun i => G (p + i)
/-- Behind the exponent's letter and sign. -/
def magOK (G : Nat → Int) (r : Nat) : Bool := !(dig G r == 0) && (r - dig G r == 0)
/-- Behind the integer part and the fraction. -/
def expOK (G : Nat → Int) (r : Nat) : Bool :=
  if 0 < r ∧ (G 0 = 101 ∨ G 0 = 69) then
    if 0 < r - 1 ∧ (sh G 1 0 = 43 ∨ sh G 1 0 = 45) then magOK (sh (sh G 1) 1) (r - 1 - 1) else magOK (sh G 1) (r - 1)
  else r == 0
/-- Behind the integer part. -/
def fracOK (G : Nat → Int) (r : Nat) : Bool :=
  if 0 < r ∧ G 0 = 46 then
    if dig (sh G 1) (r - 1) = 0 then false else expOK (sh (sh G 1) (dig (sh G 1) (r - 1))) (r - 1 - dig (sh G 1) (r - 1))
  else expOK G r
/-- Behind the sign. -/
def wholeOK (G : Nat → Int) (r : Nat) : Bool :=
  if dig G r = 0 ∨ (1 < dig G r ∧ G 0 = 48) then false else fracOK (sh G (dig G r)) (r - dig G r)
def numOK (F : Nat → Int) (m : Nat) : Bool := if 0 < m ∧ F 0 = 45 then wholeOK (sh F 1) (m - 1) else wholeOK F m

theorem digits29' (a : Option Addr) (m c : Nat) (F : Nat → Int) (w : World) (hm : m ≤ 1048576) (hmc : m ≤ c) (hc : Cells w a m (fun i => .int .u8 (F i))) :
    Calls Try.prog 29 #[.slice a m c] w fun e w' => ∃ a1 k c1 a2 r c2, e = .returned (.tuple #[.slice a1 k c1, .slice a2 r c2]) ∧ Below w.heap.size w w' ∧ k = dig F m ∧ r = m - k ∧ k ≤ m ∧ k ≤ c1 ∧ r ≤ c2 ∧
      Cells w' a1 k (fun i => .int .u8 (F i)) ∧ Cells w' a2 r (fun i => .int .u8 (sh F k i)) := by
  have hk := dig_stop F m
  refine (digits29 a m c F (dig F m) (m - dig F m) w hm hmc hc hk (by have := hk.2.1; omega)).mono ?_
  rintro e w' ⟨a1, c1, a2, c2, rfl, hb, h1, h2, h3, h4⟩
  exact ⟨a1, _, c1, a2, _, c2, rfl, hb, rfl, rfl, hk.2.1, h1, h2, h3, h4⟩

/-- What SplitNumber leaves. -/
def Told (w w' : World) (e : Ending) (ok : Bool) : Prop := (∃ v s1 s2 s3, e = .returned (.tuple #[v, s1, s2, s3, .bool ok])) ∧ Below w.heap.size w w'

theorem Told.of {w w' : World} {e : Ending} {ok b : Bool} {v s1 s2 s3 : Value} (h : ok = b) (he : e = .returned (.tuple #[v, s1, s2, s3, .bool b])) (hb : Below w.heap.size w w') : Told w w' e ok := by
  subst h
  exact ⟨⟨v, s1, s2, s3, he⟩, hb⟩

/-- A first byte: there is none, or it is there. -/
theorem first_byte (w : World) (a : Option Addr) (m : Nat) (F : Nat → Int) (hc : Cells w a m (fun i => .int .u8 (F i))) : ¬ 0 < m ∨ (0 < m ∧ ∃ b off, a = some ⟨b, off, none⟩ ∧ w.cell? ⟨b, off, none⟩ = some (.int .u8 (F 0))) := by
  by_cases h : 0 < m
  · obtain ⟨b, off, e, hcc⟩ := hc h
    exact .inr ⟨h, b, off, e, by simpa using hcc 0 h⟩
  · exact .inl h

set_option maxRecDepth 100000 in
set_option maxHeartbeats 4000000 in
theorem split27 (a : Option Addr) (m c : Nat) (F : Nat → Int) (w : World) (hm : m ≤ 1048576) (hmc : m ≤ c) (hc : Cells w a m (fun i => .int .u8 (F i))) :
    Calls Try.prog 27 #[.slice a m c] w fun e w' => Told w w' e (numOK F m) := by
  have FB := first_byte w a m F hc
  obtain ⟨neg, hneg⟩ : ∃ neg : Bool, neg = decide (0 < m ∧ F 0 = 45) := ⟨_, rfl⟩
  have X0 : Hid (numOK F m = if neg then wholeOK (sh F 1) (m - 1) else wholeOK F m) := by
    unfold Hid; rw [hneg, numOK]; simp only [decide_eq_true_eq]
  have HC : Hid (Cells w a m (fun i => .int .u8 (F i))) := hc
  clear hc
  go_enter Try.func27, Try.ntmps27
  go_upto_region 2 with (fail)
  go_cut [2] (fun v wx => v = .bool neg ∧ w = wx)
  case first =>
    rcases FB with h0 | ⟨h0, b, off, rfl, g⟩
    · have hn : neg = false := by rw [hneg]; simp; omega
      subst hn
      clear hneg
      go_wp2_with fail
      go_meet
      case rel => exact ⟨rfl, rfl⟩
    · cases e : (F 0 == 45) with
      | true =>
        have hn : neg = true := by rw [hneg]; simp at e; simp [h0, e]
        subst hn
        clear hneg
        go_wp2_with fail
        go_meet
        case rel => exact ⟨rfl, rfl⟩
      | false =>
        have hn : neg = false := by rw [hneg]; simp at e; simp [e]
        subst hn
        clear hneg
        go_wp2_with fail
        go_meet
        case rel => exact ⟨rfl, rfl⟩
  case rest =>
    obtain ⟨rfl, rfl⟩ := hcut
    clear FB
    go_upto_if 20 with (fail)
    go_cut [7] (fun s wx => ∃ a1 m1 c1 G, s = .slice a1 m1 c1 ∧ m1 ≤ c1 ∧ m1 ≤ 1048576 ∧ Cells w a1 m1 (fun i => .int .u8 (G i)) ∧ numOK F m = wholeOK G m1 ∧ w = wx)
    case first =>
      cases neg with
      | true =>
        have h0 : 0 < m := by
          have := hneg.symm
          simp at this
          exact this.1
        obtain ⟨a1, c1, s1, s2, s3⟩ := cut_l a m c 1 (m - 1) 1 rfl (by omega) hmc
        have HS : Hid (Cells w a1 (m - 1) (fun i => .int .u8 (sh F 1 i))) := s3 _ _ HC.out
        clear s3 hneg
        go_wp2_with fail
        go_meet
        case rel => exact ⟨a1, m - 1, c1, sh F 1, rfl, s2, by omega, HS.out, by rw [X0.out]; rfl, rfl⟩
      | false =>
        clear hneg
        go_wp2_with fail
        go_meet
        case rel => exact ⟨a, m, c, F, rfl, hmc, hm, HC.out, by rw [X0.out]; rfl, rfl⟩
    case rest =>
      obtain ⟨a1, m1, c1, G, rfl, hmc1, hm1, hc1, X1', rfl⟩ := hcut
      have X1 : Hid (numOK F m = wholeOK G m1) := X1'
      clear X1'
      clear X0 HC hneg
      go_wp2_with fail
      refine (digits29' a1 m1 c1 G _ hm1 hmc1 hc1).mono ?_
      rintro e w2 ⟨a2, k, c2, a3, r, c3, rfl, hb2, hk, hr, hkm, hkc, hrc, hc2, hc3⟩
      clear hc1
      have FB := first_byte w2 a2 k G hc2
      obtain ⟨bad, hbad⟩ : ∃ bad : Bool, bad = decide (k = 0 ∨ (1 < k ∧ G 0 = 48)) := ⟨_, rfl⟩
      have X2 : Hid (numOK F m = if bad then false else fracOK (sh G k) r) := by
        unfold Hid; rw [X1.out, wholeOK, hbad, ← hk, ← hr]; simp only [decide_eq_true_eq]
      have HR : Hid (Below w.heap.size w w2 ∧ Cells w2 a3 r (fun i => .int .u8 (sh G k i))) := ⟨hb2, hc3⟩
      have hr2 : r ≤ 1048576 := by omega
      clear hc2 hc3 hb2 hk hr X1
      go_upto_region 6 with (fail)
      go_cut [41] (fun v wx => v = .bool bad ∧ w2 = wx)
      case first =>
        rcases FB with h0 | ⟨h0, b, off, rfl, g⟩
        · have e0 : ((k : Int) == 0) = true := by rw [beq_iff_eq]; omega
          have hn : bad = true := by rw [hbad]; simp; omega
          subst hn
          clear hbad
          go_wp2_with fail
          go_meet
          case rel => exact ⟨rfl, rfl⟩
        · have e0 : ((k : Int) == 0) = false := by rw [beq_eq_false_iff_ne]; omega
          by_cases h1 : 1 < k
          · cases e : (G 0 == 48) with
            | true =>
              have hn : bad = true := by rw [hbad]; simp at e; simp [h1, e]
              subst hn
              clear hbad
              go_wp2_with fail
              go_meet
              case rel => exact ⟨rfl, rfl⟩
            | false =>
              have hn : bad = false := by rw [hbad]; simp at e; simp [e]; omega
              subst hn
              clear hbad
              go_wp2_with fail
              go_meet
              case rel => exact ⟨rfl, rfl⟩
          · have hn : bad = false := by rw [hbad]; simp; omega
            subst hn
            clear hbad
            go_wp2_with fail
            go_meet
            case rel => exact ⟨rfl, rfl⟩
      case rest =>
        obtain ⟨rfl, rfl⟩ := hcut
        clear FB hbad
        cases bad with
        | true =>
          go_wp2
          (try simp only [Exit.inBlock, Exit.then]); refine bodyPost_ret (results_tmp5 rfl _ _ _) rfl ?_
          exact Told.of (b := false) (by rw [X2.out]; rfl) rfl HR.out.1
        | false =>
          generalize sh G k = H at *
          have FB := first_byte w2 a3 r H HR.out.2
          obtain ⟨fr, hfr⟩ : ∃ fr : Bool, fr = decide (0 < r ∧ H 0 = 46) := ⟨_, rfl⟩
          have X3 : Hid (numOK F m = if fr then (if dig (sh H 1) (r - 1) = 0 then false else expOK (sh (sh H 1) (dig (sh H 1) (r - 1))) (r - 1 - dig (sh H 1) (r - 1))) else expOK H r) := by
            unfold Hid; rw [X2.out, if_neg (by simp), fracOK, hfr]; simp only [decide_eq_true_eq]
          clear X2
          go_upto_region 8 with (fail)
          go_cut [53] (fun v wx => v = .bool fr ∧ w2 = wx)
          case first =>
            rcases FB with h0 | ⟨h0, b, off, rfl, g⟩
            · have hn : fr = false := by rw [hfr]; simp; omega
              subst hn
              clear hfr
              go_wp2_with fail
              go_meet
              case rel => exact ⟨rfl, rfl⟩
            · cases e : (H 0 == 46) with
              | true =>
                have hn : fr = true := by rw [hfr]; simp at e; simp [h0, e]
                subst hn
                clear hfr
                go_wp2_with fail
                go_meet
                case rel => exact ⟨rfl, rfl⟩
              | false =>
                have hn : fr = false := by rw [hfr]; simp at e; simp [e]
                subst hn
                clear hfr
                go_wp2_with fail
                go_meet
                case rel => exact ⟨rfl, rfl⟩
          case rest =>
            obtain ⟨rfl, rfl⟩ := hcut
            clear FB
            go_upto_if 53 with (fail)
            go_cut [4, 7] (fun _ s wx => ∃ a1 m1 c1 G, s = .slice a1 m1 c1 ∧ m1 ≤ c1 ∧ m1 ≤ 1048576 ∧ Cells wx a1 m1 (fun i => .int .u8 (G i)) ∧ numOK F m = expOK G m1 ∧ Below w.heap.size w wx)
            case first =>
              cases fr with
              | true =>
                have h0 : 0 < r := by
                  have := hfr.symm
                  simp at this
                  exact this.1
                obtain ⟨a4, c4, s1, s2, s3⟩ := cut_l a3 r c3 1 (r - 1) 1 rfl (by omega) hrc
                have s4 : Cells w2 a4 (r - 1) (fun i => .int .u8 (sh H 1 i)) := s3 _ _ HR.out.2
                clear s3 hfr
                go_wp2_with fail
                refine (digits29' a4 (r - 1) c4 (sh H 1) _ (by omega) s2 s4).mono ?_
                rintro e w3 ⟨a5, k5, c5, a6, r6, c6, rfl, hb3, hk5, hr6, hkm5, hkc5, hrc6, hc5, hc6⟩
                have X4 : Hid (numOK F m = if k5 = 0 then false else expOK (sh (sh H 1) k5) r6) := by
                  unfold Hid; rw [X3.out, hr6, hk5]; exact if_pos trivial
                have HR3 : Hid (Below w.heap.size w w3 ∧ Cells w3 a6 r6 (fun i => .int .u8 (sh (sh H 1) k5 i))) := ⟨below_all HR.out.1 hb3, hc6⟩
                have hr6' : r6 ≤ 1048576 := by omega
                clear hb3 hc5 hc6 hk5 hr6 s4 s1 X3
                by_cases hz : k5 = 0
                · have ez : ((k5 : Int) == 0) = true := by rw [beq_iff_eq]; omega
                  have X5 : Hid (numOK F m = false) := by unfold Hid; rw [X4.out, if_pos hz]
                  clear hz X4
                  go_wp2
                  (try simp only [Exit.inBlock, Exit.then]); refine bodyPost_ret (results_tmp5 rfl _ _ _) rfl ?_
                  exact Told.of X5.out rfl HR3.out.1
                · have ez : ((k5 : Int) == 0) = false := by rw [beq_eq_false_iff_ne]; omega
                  have X5 : Hid (numOK F m = expOK (sh (sh H 1) k5) r6) := by unfold Hid; rw [X4.out, if_neg hz]
                  clear X4
                  go_wp2_with fail
                  go_meet
                  case rel => exact ⟨a6, r6, c6, _, rfl, hrc6, hr6', HR3.out.2, X5.out, HR3.out.1⟩
              | false =>
                clear hfr
                go_wp2_with fail
                go_meet
                case rel => exact ⟨a3, r, c3, H, rfl, hrc, hr2, HR.out.2, by rw [X3.out]; rfl, HR.out.1⟩
            case rest =>
              rename_i s4v _
              obtain ⟨a4, m4, c4, G4, rfl, hmc4, hm4, hc4, X4', hb4⟩ := hcut
              have X4 : Hid (numOK F m = expOK G4 m4) := X4'
              clear X4'
              clear X3 HR hfr hrc hr2 hkm hkc hmc hm hmc1 hm1
              have FB := first_byte wc a4 m4 G4 hc4
              obtain ⟨ex, hex⟩ : ∃ ex : Bool, ex = decide (0 < m4 ∧ (G4 0 = 101 ∨ G4 0 = 69)) := ⟨_, rfl⟩
              have X5 : Hid (numOK F m = if ex then (if 0 < m4 - 1 ∧ (sh G4 1 0 = 43 ∨ sh G4 1 0 = 45) then magOK (sh (sh G4 1) 1) (m4 - 1 - 1) else magOK (sh G4 1) (m4 - 1)) else m4 == 0) := by
                unfold Hid; rw [X4.out, expOK, hex]; simp only [decide_eq_true_eq]
              have HR : Hid (Below w.heap.size w wc ∧ Cells wc a4 m4 (fun i => .int .u8 (G4 i))) := ⟨hb4, hc4⟩
              clear X4 hc4 hb4
              go_upto_region 12 with (fail)
              go_cut [80] (fun v wx => v = .bool ex ∧ wc = wx)
              case first =>
                rcases FB with h0 | ⟨h0, b, off, rfl, g⟩
                · have hn : ex = false := by rw [hex]; simp; omega
                  subst hn
                  clear hex
                  go_wp2_with fail
                  go_meet
                  case rel => exact ⟨rfl, rfl⟩
                · cases e : (G4 0 == 101) with
                  | true =>
                    have hn : ex = true := by rw [hex]; simp at e; simp [h0, e]
                    subst hn
                    clear hex
                    go_wp2_with fail
                    go_meet
                    case rel => exact ⟨rfl, rfl⟩
                  | false =>
                    cases e2 : (G4 0 == 69) with
                    | true =>
                      have hn : ex = true := by rw [hex]; simp at e2; simp [h0, e2]
                      subst hn
                      clear hex
                      go_wp2_with fail
                      go_meet
                      case rel => exact ⟨rfl, rfl⟩
                    | false =>
                      have hn : ex = false := by rw [hex]; simp at e e2; simp [e, e2]
                      subst hn
                      clear hex
                      go_wp2_with fail
                      go_meet
                      case rel => exact ⟨rfl, rfl⟩
              case rest =>
                obtain ⟨rfl, rfl⟩ := hcut
                clear FB
                cases ex with
                | false =>
                  clear hex
                  cases ez : ((m4 : Int) == 0) with
                  | true =>
                    have X6 : Hid (numOK F m = true) := by unfold Hid; rw [X5.out]; rw [beq_iff_eq] at ez; simp; omega
                    clear X5
                    go_wp2
                    (try simp only [Exit.inBlock, Exit.then]); refine bodyPost_ret (results_tmp5 rfl _ _ _) rfl ?_
                    exact Told.of X6.out rfl HR.out.1
                  | false =>
                    have X6 : Hid (numOK F m = false) := by unfold Hid; rw [X5.out]; rw [beq_eq_false_iff_ne] at ez; simp; omega
                    clear X5
                    go_wp2
                    (try simp only [Exit.inBlock, Exit.then]); refine bodyPost_ret (results_tmp5 rfl _ _ _) rfl ?_
                    exact Told.of X6.out rfl HR.out.1
                | true =>
                  have h0 : 0 < m4 := by
                    have := hex.symm
                    simp at this
                    exact this.1
                  clear hex
                  obtain ⟨m5, hm5⟩ : ∃ m5, m5 = m4 - 1 := ⟨_, rfl⟩
                  obtain ⟨a5, c5, s1, s2, s3⟩ := cut_l a4 m4 c4 1 m5 1 rfl (by omega) hmc4
                  have s4 : Cells wc a5 m5 (fun i => .int .u8 (sh G4 1 i)) := s3 _ _ HR.out.2
                  have X6 : Hid (numOK F m = if 0 < m5 ∧ (sh G4 1 0 = 43 ∨ sh G4 1 0 = 45) then magOK (sh (sh G4 1) 1) (m5 - 1) else magOK (sh G4 1) m5) := by
                    unfold Hid; rw [X5.out, if_pos rfl, hm5]
                  have hm5' : m5 ≤ 1048576 := by omega
                  have HR5 : Hid (Below w.heap.size w wc ∧ Cells wc a5 m5 (fun i => .int .u8 (sh G4 1 i))) := ⟨HR.out.1, s4⟩
                  generalize sh G4 1 = G5 at *
                  have FB := first_byte wc a5 m5 G5 s4
                  obtain ⟨sg, hsg⟩ : ∃ sg : Bool, sg = decide (0 < m5 ∧ (G5 0 = 43 ∨ G5 0 = 45)) := ⟨_, rfl⟩
                  have X7 : Hid (numOK F m = if sg then magOK (sh G5 1) (m5 - 1) else magOK G5 m5) := by
                    unfold Hid; rw [X6.out, hsg]; simp only [decide_eq_true_eq]
                  clear X5 X6 s3 s4 HR hm5
                  go_upto_region 15 with (fail)
                  go_cut [98] (fun v wx => v = .bool sg ∧ wc = wx)
                  case first =>
                    rcases FB with h1 | ⟨h1, b, off, rfl, g⟩
                    · have hn : sg = false := by rw [hsg]; simp; omega
                      subst hn
                      clear hsg
                      go_wp2_with fail
                      go_meet
                      case rel => exact ⟨rfl, rfl⟩
                    · cases e : (G5 0 == 43) with
                      | true =>
                        have hn : sg = true := by rw [hsg]; simp at e; simp [h1, e]
                        subst hn
                        clear hsg
                        go_wp2_with fail
                        go_meet
                        case rel => exact ⟨rfl, rfl⟩
                      | false =>
                        cases e2 : (G5 0 == 45) with
                        | true =>
                          have hn : sg = true := by rw [hsg]; simp at e2; simp [h1, e2]
                          subst hn
                          clear hsg
                          go_wp2_with fail
                          go_meet
                          case rel => exact ⟨rfl, rfl⟩
                        | false =>
                          have hn : sg = false := by rw [hsg]; simp at e e2; simp [e, e2]
                          subst hn
                          clear hsg
                          go_wp2_with fail
                          go_meet
                          case rel => exact ⟨rfl, rfl⟩
                  case rest =>
                    obtain ⟨rfl, rfl⟩ := hcut
                    clear FB s1
                    go_upto_if 98 with (fail)
                    go_cut [8] (fun s wx => ∃ a6 m6 c6 G6, s = .slice a6 m6 c6 ∧ m6 ≤ c6 ∧ m6 ≤ m5 ∧ Cells wc a6 m6 (fun i => .int .u8 (G6 i)) ∧ numOK F m = magOK G6 m6 ∧ wc = wx)
                    case first =>
                      cases sg with
                      | true =>
                        have h0 : 0 < m5 := by
                          have := hsg.symm
                          simp at this
                          exact this.1
                        obtain ⟨a6, c6, s1, s2', s3⟩ := cut_l a5 m5 c5 1 (m5 - 1) 1 rfl (by omega) s2
                        have HS : Hid (Cells wc a6 (m5 - 1) (fun i => .int .u8 (sh G5 1 i))) := s3 _ _ HR5.out.2
                        clear s3 hsg
                        go_wp2_with fail
                        go_meet
                        case rel => exact ⟨a6, m5 - 1, c6, sh G5 1, rfl, s2', by omega, HS.out, by rw [X7.out]; rfl, rfl⟩
                      | false =>
                        clear hsg
                        go_wp2_with fail
                        go_meet
                        case rel => exact ⟨a5, m5, c5, G5, rfl, s2, Nat.le_refl _, HR5.out.2, by rw [X7.out]; rfl, rfl⟩
                    case rest =>
                      obtain ⟨a6, m6, c6, G6, rfl, hmc6, hm6, hc6, X8', rfl⟩ := hcut
                      have X8 : Hid (numOK F m = magOK G6 m6) := X8'
                      clear X8' X7 hsg
                      go_wp2_with fail
                      refine (digits29' a6 m6 c6 G6 _ (by omega) hmc6 hc6).mono ?_
                      rintro e w7 ⟨a7, k7, c7, a8, r8, c8, rfl, hb7, hk7, hr8, hkm7, hkc7, hrc8, -, -⟩
                      have X9 : Hid (numOK F m = (!(k7 == 0) && (r8 == 0))) := by
                        unfold Hid; rw [X8.out, magOK, ← hk7, ← hr8]
                      have HB : Hid (Below w.heap.size w w7) := below_all HR5.out.1 hb7
                      clear X8 hc6 hb7 hk7 HR5
                      by_cases hz : k7 = 0
                      · have ez : ((k7 : Int) == 0) = true := by rw [beq_iff_eq]; omega
                        have X10 : Hid (numOK F m = false) := by unfold Hid; rw [X9.out, hz]; rfl
                        clear hz X9
                        go_wp2
                        (try simp only [Exit.inBlock, Exit.then]); refine bodyPost_ret (results_tmp5 rfl _ _ _) rfl ?_
                        exact Told.of X10.out rfl HB.out
                      · have ez : ((k7 : Int) == 0) = false := by rw [beq_eq_false_iff_ne]; omega
                        have hwr : IntKind.i64.wrap ((m5 : Int) - (r8 : Int)) = (m5 : Int) - (r8 : Int) := by rw [IntKind.wrap_i64]; omega
                        obtain ⟨a9, c9, s1, -, -⟩ := cut_h a5 m5 c5 (m5 - r8) ((m5 : Int) - (r8 : Int)) (by omega) (by omega) s2
                        cases er : ((r8 : Int) == 0) with
                        | true =>
                          have X10 : Hid (numOK F m = true) := by unfold Hid; rw [X9.out]; rw [beq_iff_eq] at er; simp; omega
                          clear X9 hr8
                          go_wp2
                          (try simp only [Exit.inBlock, Exit.then]); refine bodyPost_ret (results_tmp5 rfl _ _ _) rfl ?_
                          exact Told.of X10.out rfl HB.out
                        | false =>
                          have X10 : Hid (numOK F m = false) := by unfold Hid; rw [X9.out]; rw [beq_eq_false_iff_ne] at er; simp; omega
                          clear X9 hr8
                          go_wp2
                          (try simp only [Exit.inBlock, Exit.then]); refine bodyPost_ret (results_tmp5 rfl _ _ _) rfl ?_
                          exact Told.of X10.out rfl HB.out

end Go.Proofs.Qxb6602019a
