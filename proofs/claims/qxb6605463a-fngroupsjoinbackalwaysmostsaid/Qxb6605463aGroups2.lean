/-
  (numberSettings).groups where nothing is grouped; and all of it under one contract.
-/
import Derived.Test.Qxb6605463aGroups
namespace Go.Proofs.Qxb6605463a
open Go.RowKit

theorem one_new (w : World) (s : ByteArray) : Cells (w.alloc (.cells #[.string s] 9)) (some ⟨w.heap.size, 0, none⟩) 1 (fun _ => .string s) :=
  fun _ => ⟨w.heap.size, 0, rfl, fun i hi => by
    obtain rfl : i = 0 := by omega
    rw [cell_of_row _ w.heap.size 0 #[.string s] 9 (0, 0) (heap_alloc_new w _)]
    rfl⟩

set_option maxRecDepth 100000 in
set_option maxHeartbeats 2000000 in
theorem groups_no (x0 : Int) (x1 x2 x3 : Bool) (x4 x5 x6 x7 x8 x9 : Int) (x10 : Bool) (x11 u : ByteArray) (y0 : Int) (y1 y2 : ByteArray) (p s : Nat) (mg : Int) (y6 y7 y8 y9 : ByteArray) (d : ByteArray) (w : World)
    (hd : d.size ≤ 65536) (hp : p ≤ 536870912) (hm1 : -536870912 ≤ mg) (hm2 : mg ≤ 536870912) (hw : whole u d.size p mg) :
    Calls Try.prog 24 #[setV x0 x1 x2 x3 x4 x5 x6 x7 x8 x9 x10 x11 u, .string d, symV y0 y1 y2 p s mg y6 y7 y8 y9] w fun e w' => Strs w w' e 1 (fun _ => d) := by
  have fin : ∀ (o1 o2 : Obj), Strs w (((w.alloc o1).alloc o2).alloc (.cells #[.string d] 9)) (.returned (.slice (some ⟨w.heap.size + 1 + 1, 0, none⟩) 1 1)) 1 (fun _ => d) := by
    intro o1 o2
    have hb : Below w.heap.size w ((w.alloc o1).alloc o2) := ((Below.refl _ _).alloc (Nat.le_refl _) _).alloc (by simp) _
    have e : ((w.alloc o1).alloc o2).heap.size = w.heap.size + 1 + 1 := by simp
    have := one_new ((w.alloc o1).alloc o2) d
    rw [e] at this
    exact ⟨_, _, rfl, hb.alloc hb.size _, this⟩
  have cases8 : ((u.toList == [97, 108, 119, 97, 121, 115]) = false ∧ (u.toList == [109, 105, 110, 50]) = false ∧ (u.toList == [110, 101, 118, 101, 114]) = true ∧ True ∧ True) ∨
      ((u.toList == [97, 108, 119, 97, 121, 115]) = true ∧ (u.toList == [109, 105, 110, 50]) = false ∧ (u.toList == [110, 101, 118, 101, 114]) = false ∧ ((p : Int) == 0) = true ∧ True) ∨
      ((u.toList == [97, 108, 119, 97, 121, 115]) = true ∧ (u.toList == [109, 105, 110, 50]) = false ∧ (u.toList == [110, 101, 118, 101, 114]) = false ∧ ((p : Int) == 0) = false ∧ (d.size : Int) < p + 1) ∨
      ((u.toList == [97, 108, 119, 97, 121, 115]) = false ∧ (u.toList == [109, 105, 110, 50]) = true ∧ (u.toList == [110, 101, 118, 101, 114]) = false ∧ ((p : Int) == 0) = true ∧ 2 < mg) ∨
      ((u.toList == [97, 108, 119, 97, 121, 115]) = false ∧ (u.toList == [109, 105, 110, 50]) = true ∧ (u.toList == [110, 101, 118, 101, 114]) = false ∧ ((p : Int) == 0) = true ∧ mg ≤ 2) ∨
      ((u.toList == [97, 108, 119, 97, 121, 115]) = false ∧ (u.toList == [109, 105, 110, 50]) = true ∧ (u.toList == [110, 101, 118, 101, 114]) = false ∧ ((p : Int) == 0) = false ∧ 2 < mg ∧ (d.size : Int) < p + mg) ∨
      ((u.toList == [97, 108, 119, 97, 121, 115]) = false ∧ (u.toList == [109, 105, 110, 50]) = true ∧ (u.toList == [110, 101, 118, 101, 114]) = false ∧ ((p : Int) == 0) = false ∧ mg ≤ 2 ∧ (d.size : Int) < p + 2) ∨
      ((u.toList == [97, 108, 119, 97, 121, 115]) = false ∧ (u.toList == [109, 105, 110, 50]) = false ∧ (u.toList == [110, 101, 118, 101, 114]) = false ∧ ((p : Int) == 0) = true ∧ True) ∨
      ((u.toList == [97, 108, 119, 97, 121, 115]) = false ∧ (u.toList == [109, 105, 110, 50]) = false ∧ (u.toList == [110, 101, 118, 101, 114]) = false ∧ ((p : Int) == 0) = false ∧ (d.size : Int) < p + mg) := by
    have hpz : ((p : Int) == 0) = true ∨ ((p : Int) == 0) = false := by cases h : ((p : Int) == 0) <;> simp
    unfold whole least at hw
    rcases modes u.toList with ⟨a, b, c⟩ | ⟨a, b, c⟩ | ⟨a, b, c⟩ | ⟨a, b, c⟩
    · rcases hpz with z | z
      · exact .inr (.inl ⟨a, b, c, z, trivial⟩)
      · refine .inr (.inr (.inl ⟨a, b, c, z, ?_⟩))
        rw [a, c] at hw
        simp at hw z
        omega
    · by_cases e : 2 < mg
      · rcases hpz with z | z
        · exact .inr (.inr (.inr (.inl ⟨a, b, c, z, e⟩)))
        · refine .inr (.inr (.inr (.inr (.inr (.inl ⟨a, b, c, z, e, ?_⟩)))))
          rw [a, b, c] at hw
          simp at hw z
          omega
      · rcases hpz with z | z
        · exact .inr (.inr (.inr (.inr (.inl ⟨a, b, c, z, by omega⟩))))
        · refine .inr (.inr (.inr (.inr (.inr (.inr (.inl ⟨a, b, c, z, by omega, ?_⟩))))))
          rw [a, b, c] at hw
          simp at hw z
          omega
    · exact .inl ⟨a, b, c, trivial, trivial⟩
    · rcases hpz with z | z
      · exact .inr (.inr (.inr (.inr (.inr (.inr (.inr (.inl ⟨a, b, c, z, trivial⟩)))))))
      · refine .inr (.inr (.inr (.inr (.inr (.inr (.inr (.inr ⟨a, b, c, z, ?_⟩)))))))
        rw [a, b, c] at hw
        simp at hw z
        omega
  clear hw
  have F : Hid _ := fin
  clear fin
  rcases cases8 with ⟨hA, hM, hN, hz, hl⟩ | ⟨hA, hM, hN, hz, hl⟩ | ⟨hA, hM, hN, hz, hl⟩ | ⟨hA, hM, hN, hz, hl⟩ | ⟨hA, hM, hN, hz, hl⟩ | ⟨hA, hM, hN, hz, hl, hl'⟩ | ⟨hA, hM, hN, hz, hl, hl'⟩ | ⟨hA, hM, hN, hz, hl⟩ | ⟨hA, hM, hN, hz, hl⟩
  all_goals
    go_enter Try.func24, Try.ntmps24
    go_wp2
    go_ret
    exact F.out _ _

end Go.Proofs.Qxb6605463a
