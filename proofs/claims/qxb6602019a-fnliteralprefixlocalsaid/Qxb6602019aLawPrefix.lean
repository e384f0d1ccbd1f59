/-
  FnLiteralPrefixLocal: the walk.
-/
import Derived.Test.Qxb6602019aCalls
namespace Go.Proofs.Qxb6602019a
open Go.RowKit

set_option maxRecDepth 100000 in
set_option maxHeartbeats 2000000 in
theorem law6 (a : Option Addr) (n c : Nat) (x : Int) (B : Nat → Int) (w : World) (hc : Cells w a n (fun i => .int .u8 (B i))) :
    Calls Try.prog 6 #[.slice a n c, .int .i64 x] w fun e w' => e = .returned (.bool true) ∧ Below w.heap.size w w' := by
  have HC : Hid (Cells w a n (fun i => .int .u8 (B i))) := hc
  clear hc
  go_enter Try.func6, Try.ntmps6
  go_wp2_with fail
  refine (bytes18 a n c x _).mono ?_
  rintro e0 w1 ⟨⟨bb, rfl⟩, rfl⟩
  cases bb with
  | false =>
    go_wp2_with fail
    go_ret
    exact ⟨rfl, Below.refl _ _⟩
  | true =>
    by_cases hn : n ≤ 1048576
    · by_cases hx0 : x < 0
      · go_wp2_with fail
        go_ret
        exact ⟨rfl, Below.refl _ _⟩
      · obtain ⟨k, rfl⟩ := Int.eq_ofNat_of_zero_le (Int.not_lt.1 hx0)
        by_cases hkn : k ≤ n
        · obtain ⟨e, hs⟩ := Stop.ex delim B hkn
          have he1 := hs.1
          have he2 := hs.2.1
          have HS : Hid (Stop delim B n k e) := hs
          clear hs hx0
          go_wp2_with fail
          refine (clone9 a n c B _ hn HC.out).mono ?_
          rintro e1 w2 ⟨a', c', rfl, hb1, hnc, hc1⟩
          have H1 : Hid (Below w.heap.size w w2 ∧ Cells w2 a' n (fun i => .int .u8 (B i))) := ⟨hb1, hc1⟩
          clear hb1 hc1
          cases hok : litOK (sh B k) (e - k) with
          | false =>
            have HOK : Hid (litOK (sh B k) (e - k) = false) := hok
            clear hok
            go_wp2_with fail
            refine (zzLiteral15 n c' a' k e false B _ hn hnc H1.out.2 HS.out n true (.inr ⟨HOK.out, rfl, rfl⟩)).mono ?_
            rintro e2 w3 ⟨rfl, hb2⟩
            have H2 : Hid (Below w2.heap.size w2 w3) := hb2
            clear hb2
            go_wp2_with fail
            go_ret
            exact ⟨rfl, below_all H1.out.1 H2.out⟩
          | true =>
            have HOK : Hid (litOK (sh B k) (e - k) = true) := hok
            clear hok
            obtain ⟨a2, c2, s1, s2, s3⟩ := cut_h a' n c' e (e : Int) rfl he2 hnc
            have S3 : Hid (∀ w F, Cells w a' n F → Cells w a2 e F) := s3
            clear s3
            have t1 : ¬ (e : Int) < (k : Int) := by omega
            have t2 : ¬ (n : Int) < (e : Int) := by omega
            go_wp2_with fail
            refine (zzLiteral15 n c' a' k e false B _ hn hnc H1.out.2 HS.out e false (.inl ⟨HOK.out, rfl, rfl⟩)).mono ?_
            rintro e2 w3 ⟨rfl, hb2⟩
            have H2 : Hid (Below w2.heap.size w2 w3) := hb2
            clear hb2
            go_wp2_with fail
            refine (zzLiteral15 e c2 a2 k e false B _ (by omega) s2 (S3.out _ _ (H1.out.2.later H2.out)) HS.out.cut e false (.inl ⟨HOK.out, rfl, rfl⟩)).mono ?_
            rintro e3 w4 ⟨rfl, hb3⟩
            have H3 : Hid (Below w2.heap.size w2 w4) := below_all H2.out hb3
            clear hb3 s1
            go_wp2_with fail
            refine (zzLiteral15 n c' a' k e true B _ hn hnc (H1.out.2.later H3.out) HS.out e true (.inl ⟨HOK.out, rfl, rfl⟩)).mono ?_
            rintro e4 w5 ⟨rfl, hb4⟩
            have H4 : Hid (Below w2.heap.size w2 w5) := below_all H3.out hb4
            clear hb4
            go_wp2_with fail
            go_ret
            exact ⟨rfl, below_all H1.out.1 H4.out⟩
        · go_wp2_with fail
          go_ret
          exact ⟨rfl, Below.refl _ _⟩
    · go_wp2_with fail
      go_ret
      exact ⟨rfl, Below.refl _ _⟩

end Go.Proofs.Qxb6602019a
