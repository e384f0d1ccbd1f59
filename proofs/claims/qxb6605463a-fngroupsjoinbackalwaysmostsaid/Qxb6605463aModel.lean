/-
  groupsModel.
-/
import Derived.Test.Qxb6605463aCall
namespace Go.Proofs.Qxb6605463a
open Go.RowKit

set_option maxRecDepth 100000 in
set_option maxHeartbeats 2000000 in
theorem model_no (u d : ByteArray) (p s : Nat) (mg : Int) (w : World) (_hd : d.size ≤ 65536) (_hp : p ≤ 536870912) (hm1 : -536870912 ≤ mg) (hm2 : mg ≤ 536870912)
    (hno : (u.toList == [110, 101, 118, 101, 114]) = true ∨ p = 0 ∨ d.size ≤ p ∨ (d.size : Int) < p + least u mg) :
    Calls Try.prog 14 #[.string u, .string d, .int .i64 p, .int .i64 s, .int .i64 mg] w fun e w' => Strs w w' e 1 (fun _ => d) := by
  have fin : Strs w (w.alloc (.cells #[.string d] 9)) (.returned (.slice (some ⟨w.heap.size, 0, none⟩) 1 1)) 1 (fun _ => d) :=
    ⟨_, _, rfl, (Below.refl _ _).alloc (Nat.le_refl _) _, one_new w d⟩
  have F : Hid _ := fin
  clear fin
  have hpz : (((p : Int) == 0) = true ∧ p = 0) ∨ (((p : Int) == 0) = false ∧ ¬ p = 0) := by
    cases h : ((p : Int) == 0)
    · exact .inr ⟨rfl, by simpa using h⟩
    · exact .inl ⟨rfl, by simpa using h⟩
  unfold least at hno
  rcases modes u.toList with ⟨a, b, c⟩ | ⟨a, b, c⟩ | ⟨a, b, c⟩ | ⟨a, b, c⟩
  · rcases hpz with ⟨z, hz⟩ | ⟨z, hz⟩
    · clear hno hz
      go_enter Try.func14, Try.ntmps14
      go_wp2
      go_ret
      exact F.out
    · rw [a, c] at hno
      simp only [if_true] at hno
      have hno' : d.size ≤ p ∨ (d.size : Int) < p + 1 := by
        rcases hno with h | h | h | h
        · cases h
        · exact absurd h hz
        · exact .inl h
        · exact .inr h
      have hl : d.size ≤ p := by omega
      clear hno hno' hz
      go_enter Try.func14, Try.ntmps14
      go_wp2
      go_ret
      exact F.out
  · by_cases e : mg < 2
    · rcases hpz with ⟨z, hz⟩ | ⟨z, hz⟩
      · clear hno hz
        go_enter Try.func14, Try.ntmps14
        go_wp2
        go_ret
        exact F.out
      · rw [a, b, c] at hno
        simp only [if_true] at hno
        have hl : (d.size : Int) < p + 2 := by
          rcases hno with h | h | h | h
          · cases h
          · exact absurd h hz
          · omega
          · simp at h; omega
        clear hno hz
        go_enter Try.func14, Try.ntmps14
        go_wp2
        all_goals
          go_ret
          exact F.out
    · rcases hpz with ⟨z, hz⟩ | ⟨z, hz⟩
      · clear hno hz
        go_enter Try.func14, Try.ntmps14
        go_wp2
        go_ret
        exact F.out
      · rw [a, b, c] at hno
        simp only [if_true] at hno
        have hl : (d.size : Int) < p + mg := by
          rcases hno with h | h | h | h
          · cases h
          · exact absurd h hz
          · omega
          · simp at h; omega
        clear hno hz
        go_enter Try.func14, Try.ntmps14
        go_wp2
        all_goals
          go_ret
          exact F.out
  · clear hno hpz
    go_enter Try.func14, Try.ntmps14
    go_wp2
    go_ret
    exact F.out
  · rcases hpz with ⟨z, hz⟩ | ⟨z, hz⟩
    · clear hno hz
      go_enter Try.func14, Try.ntmps14
      go_wp2
      go_ret
      exact F.out
    · rw [a, b, c] at hno
      have hl : d.size ≤ p ∨ (d.size : Int) < p + mg := by
        rcases hno with h | h | h | h
        · cases h
        · exact absurd h hz
        · exact .inl h
        · simp at h; exact .inr h
      clear hno hz
      rcases hl with hl | hl
      all_goals
        go_enter Try.func14, Try.ntmps14
        go_wp2
        all_goals
          go_ret
          exact F.out

end Go.Proofs.Qxb6605463a
