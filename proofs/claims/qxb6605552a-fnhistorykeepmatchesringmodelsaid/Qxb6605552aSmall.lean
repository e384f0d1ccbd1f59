/-
  zzB1BytesSame at one and the same slice; zzB1WindowMessages; zzB1AfterNthMessage; the bound on total length.
-/
import Derived.Test.Qxb6605552aKit
import Derived.Deep.QuietTactic
import Derived.BigQuiet
namespace Go.Proofs.Qxb6605552a
open Go.RowKit

set_option maxHeartbeats 1000000 in
theorem same16 (t : Pay) (w : World) (hp : PayOK w t) : Calls Try.prog 16 #[pv t, pv t] w fun e w' => e = .returned (.bool true) ∧ ∃ q, w' = w.drewN q := by
  obtain ⟨a, n, c⟩ := t
  obtain ⟨hn, B, hc⟩ := hp
  simp only at hn hc
  have q29 : ∀ (w : World) (a : Option Addr) (n c n' c' : Nat), (binOp .eql 29 (.slice a n c) (.slice none n' c')).run Try.prog w = .ok (.bool a.isNone) w := fun w a n c n' c' => Lib.run_eql_slice_nil w _ _ a n c n' c' Try.underlying29
  show Calls Try.prog 16 #[.slice a n c, .slice a n c] w _
  cases a with
  | none =>
    have hn0 : n = 0 := by
      by_cases h : 0 < n
      · obtain ⟨b, off, e, _⟩ := hc h
        cases e
      · omega
    subst hn0
    go_enter Try.func16, Try.ntmps16
    go_wp2
    refine wp_loop_rounds 1 ?_
    rw [rounds_succ]
    go_wp2
    go_ret
    exact ⟨rfl, 0, rfl⟩
  | some a =>
    go_enter Try.func16, Try.ntmps16
    go_wp2
    go_loopw [5] (fun i wr => ∃ k q : Nat, k ≤ n ∧ i = .int .i64 k ∧ wr = w.drewN q) (fun i _ => n - (intOf i).toNat)
    case atStart => exact ⟨0, 0, Nat.zero_le _, rfl, rfl⟩
    case round =>
      obtain ⟨k, q, hk, rfl, rfl⟩ := hrel
      by_cases hlt : k < n
      · obtain ⟨b, off, e, hcc⟩ := hc (by omega)
        obtain rfl := Option.some.inj e
        have g := hcc k hlt
        have b00 : (0 : Int) ≤ (k : Int) := by omega
        have b01 : (k : Int) < (n : Int) := by omega
        clear hc hcc q29
        go_wp2
        go_quiet (fail)
        go_wp2
        go_roundw
        case rel => exact ⟨k + 1, _, by omega, by go_num, rfl⟩
        case measure => simp [intOf]; omega
      · go_wp2
        go_ret
        exact ⟨rfl, q, rfl⟩

set_option maxHeartbeats 1000000 in
theorem window9 (a : Option Addr) (L c : Nat) (M : Nat → Int) (hi : Int) (h n : Nat) (w : World) (hL : L ≤ 65536) (hp : L = 0 ∨ ∃ k, L = 2 ^ k) (hn : n ≤ L) (hh : 0 < L → hi = (h : Int) ∧ h < L) (hc : Cells w a L (fun i => .int .i32 (M i))) :
    Calls Try.prog 9 #[.slice a L c, .int .i64 hi, .int .i64 n] w fun e w' => e = .returned (.int .i64 (cnt (fun k => M ((h + k) % L)) n)) ∧ w = w' := by
  go_enter Try.func9, Try.ntmps9
  go_wp2
  go_loop [7, 8] (fun c i => ∃ k : Nat, k ≤ n ∧ i = .int .i64 k ∧ c = .int .i64 (cnt (fun k => M ((h + k) % L)) k)) (fun _ i => n - (intOf i).toNat)
  case atStart => exact ⟨0, Nat.zero_le _, rfl, rfl⟩
  case round =>
    obtain ⟨k, hk, rfl, rfl⟩ := hrel
    by_cases hlt : k < n
    · obtain ⟨b, off, rfl, hcc⟩ := hc (by omega)
      have hpow : ∃ k, L = 2 ^ k := by
        rcases hp with e | e
        · omega
        · exact e
      obtain ⟨hhi, hhl⟩ := hh (by omega)
      subst hhi
      have hm := mask2 L h k (by omega) hpow (by omega) (by omega)
      have hlt2 : (h + k) % L < L := Nat.mod_lt _ (by omega)
      have g := hcc _ hlt2
      have hcl := cnt_le (fun k => M ((h + k) % L)) k
      have HS : Hid (cnt (fun k => M ((h + k) % L)) (k + 1) = cnt (fun k => M ((h + k) % L)) k + (if 0 ≤ M ((h + k) % L) then 1 else 0)) := rfl
      generalize cnt (fun k => M ((h + k) % L)) k = cc at *
      generalize (h + k) % L = s at *
      clear hc hcc hp hpow hh
      go_wp2
      · have h0 : 0 ≤ M s := by assumption
        go_round
        case rel => exact ⟨k + 1, by omega, by go_num, by rw [HS.out, if_pos h0]; go_num⟩
        case measure => simp [intOf]; omega
      · have h0 : ¬ 0 ≤ M s := by omega
        go_round
        case rel => exact ⟨k + 1, by omega, by go_num, by rw [HS.out, if_neg h0]; rfl⟩
        case measure => simp [intOf]; omega
    · have : k = n := by omega
      subst this
      go_wp2
      go_ret
      exact ⟨rfl, rfl⟩

theorem first_step {M : Nat → Int} {need k : Nat} (h1 : cnt M k + 1 = need) (h2 : 0 ≤ M k) : First M need (k + 1) := by
  refine ⟨by simp only [cnt, if_pos h2]; omega, fun i hi => ?_⟩
  have := cnt_mono M i k (by omega)
  omega

set_option maxHeartbeats 1000000 in
theorem after15 (a : Option Addr) (n c : Nat) (M : Nat → Int) (need : Nat) (w : World) (hn : n ≤ 1000000) (h0 : 0 < need) (hle : need ≤ cnt M n) (hc : Cells w a n (fun i => .int .i32 (M i))) :
    Calls Try.prog 15 #[.slice a n c, .int .i64 need] w fun e w' => (∃ d : Nat, e = .returned (.int .i64 d) ∧ First M need d ∧ d ≤ n) ∧ w = w' := by
  have hcn := cnt_le M n
  go_enter Try.func15, Try.ntmps15
  go_wp2
  go_loop [5, 6] (fun s i => ∃ k : Nat, k ≤ n ∧ i = .int .i64 k ∧ s = .int .i64 (cnt M k) ∧ cnt M k < need) (fun _ i => n - (intOf i).toNat)
  case atStart => exact ⟨0, Nat.zero_le _, rfl, rfl, h0⟩
  case round =>
    obtain ⟨k, hk, rfl, rfl, hlt0⟩ := hrel
    by_cases hlt : k < n
    · obtain ⟨b, off, rfl, hcc⟩ := hc (by omega)
      have g := hcc k hlt
      have HS : Hid (cnt M (k + 1) = cnt M k + (if 0 ≤ M k then 1 else 0)) := rfl
      have HF : Hid (cnt M k + 1 = need → 0 ≤ M k → First M need (k + 1)) := first_step
      clear hc hcc
      by_cases hm : 0 ≤ M k
      · by_cases hd : cnt M k + 1 = need
        · have e : (((cnt M k : Nat) : Int) + 1 == (need : Int)) = true := by rw [beq_iff_eq]; omega
          have HD : Hid (cnt M k + 1 = need) := hd
          clear hd
          go_wp2
          go_ret
          exact ⟨⟨k + 1, by go_num, HF.out HD.out hm, by omega⟩, rfl⟩
        · have e : (((cnt M k : Nat) : Int) + 1 == (need : Int)) = false := by rw [beq_eq_false_iff_ne]; omega
          go_wp2
          go_round
          case rel => exact ⟨k + 1, by omega, by go_num, by rw [HS.out, if_pos hm]; go_num, by rw [HS.out, if_pos hm]; omega⟩
          case measure => simp [intOf]; omega
      · go_wp2
        go_round
        case rel => exact ⟨k + 1, by omega, by go_num, by rw [HS.out, if_neg hm]; rfl, by rw [HS.out, if_neg hm]; omega⟩
        case measure => simp [intOf]; omega
    · have : k = n := by omega
      subst this
      omega

set_option maxHeartbeats 1000000 in
theorem bytes8 (r f : Int) (a0 a1 a2 : Option Addr) (n0 c0 n1 c1 n2 c2 : Nat) (V : Nat → Pay) (h n m mem : Int) (w : World) (hn1 : n1 ≤ 9223372036854775807) (hV : Cells w a1 n1 (fun i => pv (V i))) :
    Calls Try.prog 8 #[.int .i64 r, .int .u64 f, .slice a0 n0 c0, .slice a1 n1 c1, .int .i64 h, .int .i64 n, .int .i64 m, .int .i64 mem, .slice a2 n2 c2] w fun e w' => IsBool e ∧ w = w' := by
  go_enter Try.func8, Try.ntmps8
  go_wp2
  all_goals first
    | (go_ret; exact ⟨⟨_, rfl⟩, rfl⟩)
    | skip
  go_loop [19, 20] (fun z i => ∃ (k : Nat) (y : Int), k ≤ n1 ∧ i = .int .i64 k ∧ z = .int .i64 y) (fun _ i => n1 - (intOf i).toNat)
  case atStart => exact ⟨0, _, Nat.zero_le _, rfl, rfl⟩
  case round =>
    obtain ⟨k, y, hk, rfl, rfl⟩ := hrel
    by_cases hlt : k < n1
    · obtain ⟨b, off, rfl, hc⟩ := hV (by omega)
      have g : w.cell? ⟨b, off + k, none⟩ = some (.slice (V k).1 (V k).2.1 (V k).2.2) := hc k hlt
      clear hc hV
      go_wp2
      · go_ret
        exact ⟨⟨_, rfl⟩, rfl⟩
      · go_ret
        exact ⟨⟨_, rfl⟩, rfl⟩
      · go_round
        case rel => exact ⟨k + 1, _, by omega, by go_num, rfl⟩
        case measure => simp [intOf]; omega
    · go_wp2
      all_goals
        go_ret
        exact ⟨⟨_, rfl⟩, rfl⟩

end Go.Proofs.Qxb6605552a
