/-
  The tests on sizes.
-/
import Derived.Test.Qxb6605463aCall
namespace Go.Proofs.Qxb6605463a
open Go.RowKit

set_option maxRecDepth 100000 in
set_option maxHeartbeats 1000000 in
theorem tooBig7 (x0 : Int) (x1 x2 x3 : Bool) (x4 x5 x6 x7 x8 x9 : Int) (x10 : Bool) (x11 u : ByteArray) (w : World) :
    Calls Try.prog 7 #[setV x0 x1 x2 x3 x4 x5 x6 x7 x8 x9 x10 x11 u] w fun e w' => IsBool e ∧ Below w.heap.size w w' := by
  go_enter Try.func7, Try.ntmps7
  go_wp2
  all_goals
    go_ret
    exact ⟨⟨_, rfl⟩, (Below.refl _ _).alloc (Nat.le_refl _) _⟩

set_option maxRecDepth 100000 in
set_option maxHeartbeats 1000000 in
theorem tooBig8 (y0 : Int) (y1 y2 : ByteArray) (p s mg : Int) (y6 y7 y8 y9 : ByteArray) (w : World) :
    Calls Try.prog 8 #[symV y0 y1 y2 p s mg y6 y7 y8 y9] w fun e w' => IsBool e ∧ Below w.heap.size w w' := by
  go_enter Try.func8, Try.ntmps8
  go_wp2
  all_goals
    go_ret
    exact ⟨⟨_, rfl⟩, (Below.refl _ _).alloc (Nat.le_refl _) _⟩

/-- It returned a bool; where that is false the symbols lie in the domain. -/
def Dom (p s mg : Int) (e : Ending) : Prop := ∃ b, e = .returned (.bool b) ∧ (b = false → (0 ≤ p ∧ p ≤ 536870912) ∧ (0 ≤ s ∧ s ≤ 536870912) ∧ (-536870912 ≤ mg ∧ mg ≤ 536870912) ∧ (0 < p → 0 < s))

set_option maxRecDepth 100000 in
set_option maxHeartbeats 1000000 in
theorem domain12 (y0 : Int) (y1 y2 : ByteArray) (p s mg : Int) (y6 y7 y8 y9 : ByteArray) (w : World) :
    Calls Try.prog 12 #[symV y0 y1 y2 p s mg y6 y7 y8 y9] w fun e w' => Dom p s mg e ∧ Below w.heap.size w w' := by
  go_enter Try.func12, Try.ntmps12
  go_wp2
  all_goals
    go_ret
    refine ⟨⟨_, rfl, fun hb => ?_⟩, (Below.refl _ _).alloc (Nat.le_refl _) _⟩
    first
      | exact absurd hb (by decide)
      | (have h' : ((s : Int) == 0) = false := hb
         have h2 : ¬ s = 0 := by simpa using h'
         omega)
      | omega

set_option maxRecDepth 100000 in
set_option maxHeartbeats 1000000 in
theorem bytes11 (x0 : Int) (x1 x2 x3 : Bool) (x4 x5 x6 x7 x8 x9 : Int) (x10 : Bool) (x11 u : ByteArray) (y0 : Int) (y1 y2 : ByteArray) (p s mg : Int) (y6 y7 y8 y9 d : ByteArray) (w : World) :
    Calls Try.prog 11 #[setV x0 x1 x2 x3 x4 x5 x6 x7 x8 x9 x10 x11 u, .string d, symV y0 y1 y2 p s mg y6 y7 y8 y9] w fun e w' => IsBool e ∧ Below w.heap.size w w' := by
  go_enter Try.func11, Try.ntmps11
  go_wp2
  all_goals
    go_ret
    exact ⟨⟨_, rfl⟩, ((Below.refl _ _).alloc (Nat.le_refl _) _).alloc (by simp) _⟩

set_option maxRecDepth 100000 in
set_option maxHeartbeats 1000000 in
theorem bytes16 (x0 : Int) (x1 x2 x3 : Bool) (x4 x5 x6 x7 x8 x9 : Int) (x10 : Bool) (x11 u : ByteArray) (y0 : Int) (y1 y2 : ByteArray) (p s mg : Int) (y6 y7 y8 y9 d : ByteArray) (w : World) :
    Calls Try.prog 16 #[setV x0 x1 x2 x3 x4 x5 x6 x7 x8 x9 x10 x11 u, .string d, symV y0 y1 y2 p s mg y6 y7 y8 y9] w fun e w' => IsBool e ∧ Below w.heap.size w w' := by
  go_enter Try.func16, Try.ntmps16
  go_wp2
  all_goals
    go_ret
    exact ⟨⟨_, rfl⟩, ((Below.refl _ _).alloc (Nat.le_refl _) _).alloc (by simp) _⟩

end Go.Proofs.Qxb6605463a
