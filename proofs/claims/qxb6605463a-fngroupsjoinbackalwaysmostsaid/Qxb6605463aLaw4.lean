/-
  FnGroupsClosedForm's own walk.
-/
import Derived.Test.Qxb6605463aSame
import Derived.Test.Qxb6605463aSmall
namespace Go.Proofs.Qxb6605463a
open Go.RowKit

theorem GL_le (u : ByteArray) (n p s : Nat) (mg : Int) : GL u n p s mg ≤ n + 2 := by
  unfold GL J
  split
  · omega
  · split
    · omega
    · have := Nat.div_le_self (n - p - 1) s
      omega

theorem up2 {w w1 : World} {o1 o2 : Obj} (hb : Below ((w.alloc o1).alloc o2).heap.size ((w.alloc o1).alloc o2) w1) :
    (∀ o, w1.cell? ⟨w.heap.size, o, none⟩ = ((w.alloc o1).alloc o2).cell? ⟨w.heap.size, o, none⟩) ∧ (∀ o, w1.cell? ⟨w.heap.size + 1, o, none⟩ = ((w.alloc o1).alloc o2).cell? ⟨w.heap.size + 1, o, none⟩) :=
  ⟨fun o => hb.cell (p := ⟨w.heap.size, o, none⟩) (by simp; omega), fun o => hb.cell (p := ⟨w.heap.size + 1, o, none⟩) (by simp)⟩
theorem below2 {w w1 : World} {o1 o2 : Obj} (hb : Below ((w.alloc o1).alloc o2).heap.size ((w.alloc o1).alloc o2) w1) : Below w.heap.size w w1 :=
  below_all (((Below.refl _ _).alloc (Nat.le_refl _) _).alloc (by simp) _) hb

/-- Cells of the two boxes stand in every later world. -/
theorem cell_up {w w' : World} {a : Addr} {v : Value} (hb : Below w.heap.size w w') (h : w.cell? a = some v) : w'.cell? a = some v := by
  rw [hb.cell (World.block_lt_of_cell? w _ h)]; exact h

set_option maxRecDepth 100000 in
set_option maxHeartbeats 4000000 in
theorem law4 (x0 : Int) (x1 x2 x3 : Bool) (x4 x5 x6 x7 x8 x9 : Int) (x10 : Bool) (x11 u : ByteArray) (y0 : Int) (y1 y2 : ByteArray) (p s mg : Int) (y6 y7 y8 y9 d : ByteArray) (w : World) :
    Calls Try.prog 4 #[setV x0 x1 x2 x3 x4 x5 x6 x7 x8 x9 x10 x11 u, .string d, symV y0 y1 y2 p s mg y6 y7 y8 y9] w fun e w' => e = .returned (.bool true) ∧ Below w.heap.size w w' := by
  go_enter Try.func4, Try.ntmps4
  go_wp2_with fail
  refine (bytes11 x0 x1 x2 x3 x4 x5 x6 x7 x8 x9 x10 x11 u y0 y1 y2 p s mg y6 y7 y8 y9 d _).mono ?_
  rintro e w1 ⟨⟨b, rfl⟩, hb1⟩
  obtain ⟨cA, cB⟩ := up2 hb1
  have K1 : Hid _ := hb1
  clear hb1
  cases b with
  | false =>
    go_wp2
    go_ret
    exact ⟨rfl, below2 K1.out⟩
  | true =>
    go_wp2_with fail
    refine (tooBig7 x0 x1 x2 x3 x4 x5 x6 x7 x8 x9 x10 x11 u _).mono ?_
    rintro e w2 ⟨⟨b2, rfl⟩, hb2⟩
    have K2 : Hid _ := below_all K1.out hb2
    clear K1 hb2 cA cB
    obtain ⟨cA, cB⟩ := up2 K2.out
    cases b2 with
    | true =>
      go_wp2
      go_ret
      exact ⟨rfl, below2 K2.out⟩
    | false =>
      go_wp2_with fail
      refine (tooBig8 y0 y1 y2 p s mg y6 y7 y8 y9 _).mono ?_
      rintro e w3 ⟨⟨b3, rfl⟩, hb3⟩
      have K3 : Hid _ := below_all K2.out hb3
      clear K2 hb3 cA cB
      obtain ⟨cA, cB⟩ := up2 K3.out
      cases b3 with
      | true =>
        go_wp2
        go_ret
        exact ⟨rfl, below2 K3.out⟩
      | false =>
        by_cases hd : 65536 < d.size
        · go_wp2
          go_ret
          exact ⟨rfl, below2 K3.out⟩
        · go_wp2_with fail
          refine (domain12 y0 y1 y2 p s mg y6 y7 y8 y9 _).mono ?_
          rintro e w4 ⟨⟨b4, rfl, hdom⟩, hb4⟩
          have K4 : Hid _ := below_all K3.out hb4
          clear K3 hb4 cA cB
          obtain ⟨cA, cB⟩ := up2 K4.out
          cases b4 with
          | true =>
            go_wp2
            go_ret
            exact ⟨rfl, below2 K4.out⟩
          | false =>
            obtain ⟨⟨d1, d2⟩, ⟨d3, d4⟩, ⟨d5, d6⟩, d7⟩ := hdom rfl
            obtain ⟨P, rfl⟩ := Int.eq_ofNat_of_zero_le d1
            obtain ⟨S, rfl⟩ := Int.eq_ofNat_of_zero_le d3
            have e2 : P ≤ 536870912 := by omega
            have e4 : S ≤ 536870912 := by omega
            have e7 : Hid (0 < P → 0 < S) := fun h => by have := d7 (by omega); omega
            clear d7 hdom
            go_wp2_with fail
            refine (callGroups13 x0 x1 x2 x3 x4 x5 x6 x7 x8 x9 x10 x11 u y0 y1 y2 P S mg y6 y7 y8 y9 d _ (by omega) e2 e4 e7.out d5 d6).mono ?_
            rintro e w5 ⟨a5, c5, rfl, hb5, hc5⟩
            have K5 : Hid _ := below_all K4.out hb5
            clear K4 hb5 cA cB
            obtain ⟨cA, cB⟩ := up2 K5.out
            go_wp2_with fail
            refine (model14 u d P S mg _ (by omega) e2 e4 e7.out d5 d6).mono ?_
            rintro e w6 ⟨a6, c6, rfl, hb6, hc6⟩
            have K6 : Hid _ := below_all K5.out hb6
            have hc5' := hc5.later hb6
            clear K5 hb6 cA cB hc5
            have hg := GL_le u d.size P S mg
            go_wp2_with fail
            refine (same15 a5 a6 _ c5 c6 _ _ (by omega) hc5' hc6).mono ?_
            rintro e w7 ⟨rfl, hb7⟩
            clear hc5' hc6
            go_wp2
            go_ret
            exact ⟨rfl, below2 (below_all K6.out hb7)⟩

end Go.Proofs.Qxb6605463a
