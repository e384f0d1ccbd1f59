/-
  The bound on the total length: it answers a bool and turns nothing.
-/
import Derived.Test.Qxb6605298aKit
namespace Go.Proofs.Qxb6605298a
open Go.RowKit

/-- It returned a bool. -/
def IsBool (e : Ending) : Prop := ∃ b, e = .returned (.bool b)

set_option maxHeartbeats 1000000 in
theorem bytes11 (a0 a1 a2 a3 a5 : Option Addr) (n0 c0 n1 c1 n2 c2 n3 c3 n5 c5 : Nat) (S : Nat → ByteArray) (r : Int) (w : World) (hn0 : n0 ≤ 9223372036854775807) (hS : Cells w a0 n0 (fun i => .string (S i))) :
    Calls Try.prog 11 #[.slice a0 n0 c0, .slice a1 n1 c1, .slice a2 n2 c2, .slice a3 n3 c3, .int .u64 r, .slice a5 n5 c5] w fun e w' => IsBool e ∧ w = w' := by
  go_enter Try.func11, Try.ntmps11
  go_wp2
  · go_ret
    exact ⟨⟨_, rfl⟩, rfl⟩
  go_loop [13, 14] (fun z i => ∃ (k : Nat) (y : Int), k ≤ n0 ∧ i = .int .i64 k ∧ z = .int .i64 y) (fun _ i => n0 - (intOf i).toNat)
  case atStart => exact ⟨0, _, Nat.zero_le _, rfl, rfl⟩
  case round =>
    obtain ⟨k, y, hk, rfl, rfl⟩ := hrel
    by_cases hlt : k < n0
    · obtain ⟨b, off, rfl, hc⟩ := hS (by omega)
      have g := hc k hlt
      clear hc hS
      go_wp2
      · go_ret
        exact ⟨⟨_, rfl⟩, rfl⟩
      · go_ret
        exact ⟨⟨_, rfl⟩, rfl⟩
      · go_round
        case rel => exact ⟨k + 1, _, by omega, by go_num, rfl⟩
        case measure => simp [intOf]; omega
    · go_wp2
      all_goals
        go_ret
        exact ⟨⟨_, rfl⟩, rfl⟩

end Go.Proofs.Qxb6605298a
