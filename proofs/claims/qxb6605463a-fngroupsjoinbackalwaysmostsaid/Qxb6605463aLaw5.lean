/-
  FnGroupsJoinBackAlwaysMost's own walk.
-/
import Derived.Test.Qxb6605463aMode
namespace Go.Proofs.Qxb6605463a
open Go.RowKit

theorem size2 {w w1 : World} {o1 o2 : Obj} (hb : Below ((w.alloc o1).alloc o2).heap.size ((w.alloc o1).alloc o2) w1) : w.heap.size < w1.heap.size ∧ w.heap.size + 1 < w1.heap.size := by
  have := hb.size
  simp at this
  omega

set_option maxRecDepth 100000 in
set_option maxHeartbeats 8000000 in
theorem law5 (x0 : Int) (x1 x2 x3 : Bool) (x4 x5 x6 x7 x8 x9 : Int) (x10 : Bool) (x11 u : ByteArray) (y0 : Int) (y1 y2 : ByteArray) (p s mg : Int) (y6 y7 y8 y9 d : ByteArray) (w : World) :
    Calls Try.prog 5 #[setV x0 x1 x2 x3 x4 x5 x6 x7 x8 x9 x10 x11 u, .string d, symV y0 y1 y2 p s mg y6 y7 y8 y9] w fun e w' => e = .returned (.bool true) ∧ Below w.heap.size w w' := by
  go_enter Try.func5, Try.ntmps5
  go_wp2_with fail
  refine (bytes16 x0 x1 x2 x3 x4 x5 x6 x7 x8 x9 x10 x11 u y0 y1 y2 p s mg y6 y7 y8 y9 d _).mono ?_
  rintro e w1 ⟨⟨b, rfl⟩, hb1⟩
  obtain ⟨cA, cB⟩ := up2 hb1
  have K1 : Hid _ := hb1
  clear hb1
  cases b with
  | false =>
    go_wp2
    go_ret
    exact ⟨rfl, below2 K1.out⟩
  | true =>
    go_wp2_with fail
    refine (tooBig7 x0 x1 x2 x3 x4 x5 x6 x7 x8 x9 x10 x11 u _).mono ?_
    rintro e w2 ⟨⟨b2, rfl⟩, hb2⟩
    have K2 : Hid _ := below_all K1.out hb2
    clear K1 hb2 cA cB
    obtain ⟨cA, cB⟩ := up2 K2.out
    cases b2 with
    | true =>
      go_wp2
      go_ret
      exact ⟨rfl, below2 K2.out⟩
    | false =>
      go_wp2_with fail
      refine (tooBig8 y0 y1 y2 p s mg y6 y7 y8 y9 _).mono ?_
      rintro e w3 ⟨⟨b3, rfl⟩, hb3⟩
      have K3 : Hid _ := below_all K2.out hb3
      clear K2 hb3 cA cB
      obtain ⟨cA, cB⟩ := up2 K3.out
      cases b3 with
      | true =>
        go_wp2
        go_ret
        exact ⟨rfl, below2 K3.out⟩
      | false =>
        by_cases hd : 65536 < d.size
        · go_wp2
          go_ret
          exact ⟨rfl, below2 K3.out⟩
        · go_wp2_with fail
          refine (domain12 y0 y1 y2 p s mg y6 y7 y8 y9 _).mono ?_
          rintro e w4 ⟨⟨b4, rfl, hdom⟩, hb4⟩
          have K4 : Hid _ := below_all K3.out hb4
          clear K3 hb4 cA cB
          obtain ⟨cA, cB⟩ := up2 K4.out
          obtain ⟨zA, zB⟩ := size2 K4.out
          cases b4 with
          | true =>
            go_wp2
            go_ret
            exact ⟨rfl, below2 K4.out⟩
          | false =>
            obtain ⟨⟨d1, d2⟩, ⟨d3, d4⟩, ⟨d5, d6⟩, d7⟩ := hdom rfl
            obtain ⟨P, rfl⟩ := Int.eq_ofNat_of_zero_le d1
            obtain ⟨S, rfl⟩ := Int.eq_ofNat_of_zero_le d3
            have e2 : P ≤ 536870912 := by omega
            have e4 : S ≤ 536870912 := by omega
            have hd' : d.size ≤ 65536 := by omega
            have e7 : Hid (0 < P → 0 < S) := fun h => by have := d7 (by omega); omega
            clear d7 hdom
            go_wp2_with fail
            refine (callGroups13 x0 x1 x2 x3 x4 x5 x6 x7 x8 x9 x10 x11 ⟨#[97, 108, 119, 97, 121, 115]⟩ y0 y1 y2 P S mg y6 y7 y8 y9 d _ hd' e2 e4 e7.out d5 d6).mono ?_
            rintro e w5 ⟨a5, c5, rfl, hb5, hc5⟩
            clear hc5
            have K5 : Hid _ := below_all (K4.out.alloc K4.out.size _) hb5
            clear K4 hb5 cA cB
            clear zA zB
            obtain ⟨cA, cB⟩ := up2 K5.out
            obtain ⟨zA, zB⟩ := size2 K5.out
            have HA : Hid (∀ v, GL v d.size P S mg ≤ GL ⟨#[97, 108, 119, 97, 121, 115]⟩ d.size P S mg) := fun v => GL_le_always v d.size P S mg
            have hgl := GL_le ⟨#[97, 108, 119, 97, 121, 115]⟩ d.size P S mg
            generalize GL ⟨#[97, 108, 119, 97, 121, 115]⟩ d.size P S mg = nA at *
            go_wp2_with fail
            refine (callGroups13 x0 x1 x2 x3 x4 x5 x6 x7 x8 x9 x10 x11 ⟨#[110, 101, 118, 101, 114]⟩ y0 y1 y2 P S mg y6 y7 y8 y9 d _ hd' e2 e4 e7.out d5 d6).mono ?_
            rintro e w6 ⟨a6, c6, rfl, hb6, hc6⟩
            clear hc6
            have K6 : Hid _ := below_all (K5.out.alloc K5.out.size _) hb6
            clear K5 hb6 cA cB
            obtain ⟨cA, cB⟩ := up2 K6.out
            rw [GL_never]
            have hnA : (nA : Int) ≤ 100000 := by omega
            clear zA zB
            go_wp2_with fail
            refine (mode17 x0 x1 x2 x3 x4 x5 x6 x7 x8 x9 x10 x11 u u y0 y1 y2 P S mg y6 y7 y8 y9 d nA _ hd' e2 e4 e7.out d5 d6 (HA.out _)).mono ?_
            rintro e w7 ⟨rfl, hb7⟩
            have K7 : Hid _ := below_all K6.out hb7
            clear K6 hb7 cA cB
            obtain ⟨cA, cB⟩ := up2 K7.out
            go_wp2_with fail
            refine (mode17 x0 x1 x2 x3 x4 x5 x6 x7 x8 x9 x10 x11 u ⟨#[97, 108, 119, 97, 121, 115]⟩ y0 y1 y2 P S mg y6 y7 y8 y9 d nA _ hd' e2 e4 e7.out d5 d6 (HA.out _)).mono ?_
            rintro e w8 ⟨rfl, hb8⟩
            have K8 : Hid _ := below_all K7.out hb8
            clear K7 hb8 cA cB
            obtain ⟨cA, cB⟩ := up2 K8.out
            go_wp2_with fail
            refine (mode17 x0 x1 x2 x3 x4 x5 x6 x7 x8 x9 x10 x11 u ⟨#[109, 105, 110, 50]⟩ y0 y1 y2 P S mg y6 y7 y8 y9 d nA _ hd' e2 e4 e7.out d5 d6 (HA.out _)).mono ?_
            rintro e w9 ⟨rfl, hb9⟩
            have K9 : Hid _ := below_all K8.out hb9
            clear K8 hb9 cA cB
            obtain ⟨cA, cB⟩ := up2 K9.out
            go_wp2_with fail
            refine (mode17 x0 x1 x2 x3 x4 x5 x6 x7 x8 x9 x10 x11 u ⟨#[97, 117, 116, 111]⟩ y0 y1 y2 P S mg y6 y7 y8 y9 d nA _ hd' e2 e4 e7.out d5 d6 (HA.out _)).mono ?_
            rintro e w10 ⟨rfl, hb10⟩
            have K10 : Hid _ := below_all K9.out hb10
            clear K9 hb10 cA cB
            obtain ⟨cA, cB⟩ := up2 K10.out
            go_wp2_with fail
            refine (mode17 x0 x1 x2 x3 x4 x5 x6 x7 x8 x9 x10 x11 u ⟨#[110, 101, 118, 101, 114]⟩ y0 y1 y2 P S mg y6 y7 y8 y9 d nA _ hd' e2 e4 e7.out d5 d6 (HA.out _)).mono ?_
            rintro e w11 ⟨rfl, hb11⟩
            have K11 : Hid _ := below_all K10.out hb11
            clear K10 hb11 cA cB
            obtain ⟨cA, cB⟩ := up2 K11.out
            go_wp2
            go_ret
            exact ⟨rfl, below2 K11.out⟩

end Go.Proofs.Qxb6605463a
