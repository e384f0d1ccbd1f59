/-
  The law's own walk where the sizes do not fit: true at once.
-/
import Derived.Test.Qxb6605298aBytes
namespace Go.Proofs.Qxb6605298a
open Go.RowKit

theorem bne_off {a b : Int} (h : (a != b) = false) : a = b := by simpa using h

set_option maxRecDepth 100000 in
set_option maxHeartbeats 4000000 in
theorem law5_off (a0 a1 a2 a3 a5 : Option Addr) (n c0 n1 c1 n2 c2 n3 c3 m c5 : Nat) (S : Nat → ByteArray) (r : Int) (w : World)
    (hn : n ≤ 9223372036854775807) (h0 : Cells w a0 n (fun i => .string (S i))) (hs : ¬ ((n ≤ 4096 ∧ n1 ≤ 4096 ∧ n2 ≤ 4096 ∧ n3 ≤ 4096 ∧ m ≤ 65536) ∧ n1 = n ∧ n2 = n ∧ n3 = n)) :
    Calls Try.prog 5 #[.slice a0 n c0, .slice a1 n1 c1, .slice a2 n2 c2, .slice a3 n3 c3, .int .u64 r, .slice a5 m c5] w fun e w' => e = .returned (.bool true) ∧ Below w.heap.size w w' := by
  have HS : Hid (¬ ((n ≤ 4096 ∧ n1 ≤ 4096 ∧ n2 ≤ 4096 ∧ n3 ≤ 4096 ∧ m ≤ 65536) ∧ n1 = n ∧ n2 = n ∧ n3 = n)) := hs
  clear hs
  go_enter Try.func5, Try.ntmps5
  go_wp2_with fail
  refine (bytes11 a0 a1 a2 a3 a5 n c0 n1 c1 n2 c2 n3 c3 m c5 S r _ hn h0).mono ?_
  rintro e w' ⟨⟨b, rfl⟩, rfl⟩
  cases b with
  | false =>
    go_wp2
    go_ret
    exact ⟨rfl, Below.refl _ _⟩
  | true =>
    by_cases hs : n ≤ 4096 ∧ n1 ≤ 4096 ∧ n2 ≤ 4096 ∧ n3 ≤ 4096 ∧ m ≤ 65536
    · have HE : Hid (¬ (n1 = n ∧ n2 = n ∧ n3 = n)) := fun h => HS.out ⟨hs, h⟩
      obtain ⟨s0, s1, s2, s3, s5⟩ := hs
      clear HS
      go_wp2_with fail
      go_loop [13, 14] (fun z i => ∃ (k : Nat) (y : Int), k ≤ n ∧ i = .int .i64 k ∧ z = .int .i64 y) (fun _ i => n - (intOf i).toNat)
      case atStart => exact ⟨0, _, Nat.zero_le _, rfl, rfl⟩
      case round =>
        obtain ⟨k, y, hk, rfl, rfl⟩ := hrel
        by_cases hlt : k < n
        · obtain ⟨b, off, rfl, hc⟩ := h0 (by omega)
          have g := hc k hlt
          clear hc h0
          go_wp2
          · go_ret
            exact ⟨rfl, Below.refl _ _⟩
          · go_round
            case rel => exact ⟨k + 1, _, by omega, by go_num, rfl⟩
            case measure => simp [intOf]; omega
        · go_wp2_with fail
          all_goals first
            | (go_at_call 12; exfalso; have e3 : ((n3 : Int) != (n : Int)) = false := by assumption
               have e3' := bne_off e3
               exact HE.out ⟨by omega, by omega, by omega⟩)
            | (go_ret; exact ⟨rfl, Below.refl _ _⟩)
    · clear HS
      go_wp2_with fail
      all_goals first
        | (exfalso; omega)
        | (go_ret; exact ⟨rfl, Below.refl _ _⟩)

end Go.Proofs.Qxb6605298a
