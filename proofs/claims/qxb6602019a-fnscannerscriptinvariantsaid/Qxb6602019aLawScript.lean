/-
  FnScannerScriptInvariant: the walk.
-/
import Derived.Test.Qxb6602019aCalls
namespace Go.Proofs.Qxb6602019a
open Go.RowKit

set_option maxRecDepth 100000 in
set_option maxHeartbeats 4000000 in
theorem law7 (a a1 : Option Addr) (n c n1 c1 : Nat) (B O : Nat → Int) (w : World) (hc : Cells w a n (fun i => .int .u8 (B i))) (hc1 : Cells w a1 n1 (fun i => .int .u8 (O i))) :
    Calls Try.prog 7 #[.slice a n c, .slice a1 n1 c1] w fun e w' => e = .returned (.bool true) ∧ Below w.heap.size w w' := by
  have HC : Hid (Cells w a n (fun i => .int .u8 (B i)) ∧ Cells w a1 n1 (fun i => .int .u8 (O i))) := ⟨hc, hc1⟩
  clear hc hc1
  go_enter Try.func7, Try.ntmps7
  go_wp2_with fail
  refine (bytes19 a a1 n c n1 c1 _).mono ?_
  rintro e0 w1 ⟨⟨bb, rfl⟩, rfl⟩
  cases bb with
  | false =>
    go_wp2_with fail
    go_ret
    exact ⟨rfl, Below.refl _ _⟩
  | true =>
    by_cases hn : n ≤ 524288
    · by_cases hn1 : n1 ≤ 524288
      · go_wp2_with fail
        refine (clone9 a n c B _ (by omega) HC.out.1).mono ?_
        rintro e1 w2 ⟨a', c', rfl, hb1, hnc, hcd⟩
        have H1 : Hid (Below w.heap.size w w2 ∧ Cells w2 a' n (fun i => .int .u8 (B i))) := ⟨hb1, hcd⟩
        clear hb1 hcd
        go_wp2_with fail
        refine (clone9 a1 n1 c1 O _ (by omega) (HC.out.2.later H1.out.1)).mono ?_
        rintro e2 w3 ⟨a1', c1', rfl, hb2, hnc1, hco⟩
        have H2 : Hid (Below w.heap.size w w3 ∧ Cells w3 a' n (fun i => .int .u8 (B i)) ∧ Cells w3 a1' n1 (fun i => .int .u8 (O i))) := ⟨below_all H1.out.1 hb2, H1.out.2.later hb2, hco⟩
        clear hb2 hco H1 HC
        go_wp2_with fail
        go_loopg [5, 6, 7] n1 (fun g nx bd i wr => ∃ (k j : Nat) (d : Bool), g + j = n1 ∧ i = .int .i64 j ∧ nx = .int .i64 k ∧ bd = .bool d ∧ k ≤ n ∧ (d = true → k = n) ∧ Below w3.heap.size w3 wr)
        case atStart => exact ⟨0, 0, false, rfl, rfl, rfl, rfl, Nat.zero_le _, (fun h => by cases h), Below.refl _ _⟩
        case round =>
          obtain ⟨k, j, d, hg, rfl, rfl, rfl, hk, hd, hbel⟩ := hrel
          have R : Hid ((d = true → k = n) ∧ Below w3.heap.size w3 wr) := ⟨hd, hbel⟩
          have HCw : Hid (Cells wr a' n (fun i => .int .u8 (B i))) := H2.out.2.1.later hbel
          by_cases hj : j < n1
          · obtain ⟨b', off, rfl, hcc⟩ := H2.out.2.2 (by omega)
            have g0 := hcc j hj
            have g1 : wr.cell? ⟨b', off + j, none⟩ = some (.int .u8 (O j)) := (hbel.cell (World.block_lt_of_cell? w3 _ g0)).trans g0
            clear hcc g0 hd hbel
            generalize O j = op at *
            go_upto_block 2 with fail
            go_cut [5, 6] (fun nx bd wx => ∃ (k' : Nat) (d' : Bool), nx = .int .i64 k' ∧ bd = .bool d' ∧ k ≤ k' ∧ k' ≤ n ∧ (d = true → d' = true) ∧ (d' = true → k' = n) ∧ Below w3.heap.size w3 wx)
            case first =>
              clear g1
              cases o0 : (op.tmod 4 == 0) with
              | true =>
                obtain ⟨e, hs⟩ := Stop.ex notSp B hk
                have he1 := hs.1
                have he2 := hs.2.1
                have HS : Hid (Stop notSp B n k e) := hs
                clear hs
                by_cases hen : e < n
                · obtain ⟨b2, off2, rfl, hcc⟩ := H2.out.2.1 (by omega)
                  have g0 := hcc e hen
                  have hlt := World.block_lt_of_cell? w3 _ g0
                  have hsp : sp (B e) = false := by
                    rcases HS.out.2.2.2 with e' | e'
                    · omega
                    · simpa [notSp] using e'
                  have HSP : Hid (sp (B e) = false) := hsp
                  have G0 : Hid (w3.cell? ⟨b2, off2 + e, none⟩ = some (.int .u8 (B e))) := g0
                  clear hcc g0 hsp
                  go_wp2_with fail
                  refine (zzPeek10 n c' _ k e d B (B e) _ (by omega) HCw.out HS.out (by rw [if_neg (by omega)])).mono ?_
                  rintro e3 w5 ⟨rfl, hb5⟩
                  have hb6 : Below w3.heap.size w3 w5 := below_all R.out.2 hb5
                  have g2 : w5.cell? ⟨b2, off2 + e, none⟩ = some (.int .u8 (B e)) := (hb6.cell hlt).trans G0.out
                  have H6 : Hid (Below w3.heap.size w3 w5) := hb6
                  clear hb5 hb6 hlt
                  go_wp2_with fail
                  refine (isSpace11 (B e) _).mono ?_
                  rintro e4 w6 ⟨rfl, rfl⟩
                  rw [HSP.out]
                  go_wp2_with fail
                  go_meet
                  case rel => exact ⟨e, d, rfl, rfl, he1, he2, id, fun h => by have := R.out.1 h; omega, H6.out⟩
                · have hen2 : e = n := by omega
                  have HE : Hid (e = n) := hen2
                  clear hen2
                  go_wp2_with fail
                  refine (zzPeek10 n c' a' k e d B 0 _ (by omega) HCw.out HS.out (by rw [if_pos HE.out])).mono ?_
                  rintro e3 w5 ⟨rfl, hb5⟩
                  have H6 : Hid (Below w3.heap.size w3 w5) := below_all R.out.2 hb5
                  clear hb5
                  go_wp2_with fail
                  go_meet
                  case rel => exact ⟨e, d, rfl, rfl, he1, he2, id, fun h => HE.out, H6.out⟩
              | false =>
                cases o1 : (op.tmod 4 == 1) with
                | true =>
                  obtain ⟨e, hs⟩ := Stop.ex delim B hk
                  have he1 := hs.1
                  have he2 := hs.2.1
                  have HS : Hid (Stop delim B n k e) := hs
                  clear hs
                  obtain ⟨x', d', hok, hx1, hx2, hd1, hd2⟩ : ∃ (x' : Nat) (d' : Bool), ((litOK (sh B k) (e - k) = true ∧ x' = e ∧ d' = d) ∨ (litOK (sh B k) (e - k) = false ∧ x' = n ∧ d' = true)) ∧ k ≤ x' ∧ x' ≤ n ∧ (d = true → d' = true) ∧ (d' = true → x' = n) := by
                    cases hl : litOK (sh B k) (e - k) with
                    | true => exact ⟨e, d, .inl ⟨rfl, rfl, rfl⟩, he1, he2, id, fun h => by have := R.out.1 h; omega⟩
                    | false => exact ⟨n, true, .inr ⟨rfl, rfl, rfl⟩, hk, Nat.le_refl _, fun _ => rfl, fun _ => rfl⟩
                  have HOK : Hid (((litOK (sh B k) (e - k) = true ∧ x' = e ∧ d' = d) ∨ (litOK (sh B k) (e - k) = false ∧ x' = n ∧ d' = true)) ∧ (d = true → d' = true) ∧ (d' = true → x' = n)) := ⟨hok, hd1, hd2⟩
                  clear hok hd1 hd2
                  go_wp2_with fail
                  refine (zzLiteral15 n c' a' k e d B _ (by omega) hnc HCw.out HS.out x' d' HOK.out.1).mono ?_
                  rintro e3 w5 ⟨rfl, hb5⟩
                  have H6 : Hid (Below w3.heap.size w3 w5) := below_all R.out.2 hb5
                  clear hb5
                  go_wp2_with fail
                  go_meet
                  case rel => exact ⟨x', d', rfl, rfl, hx1, hx2, HOK.out.2.1, HOK.out.2.2, H6.out⟩
                | false =>
                  cases o3 : (op.tmod 4 == 3) with
                  | true =>
                    have hcl : ¬ (125 : Int) = 0 := by decide
                    go_wp2_with fail
                    refine (zzMore20 n c' a' k d B 125 _ _ (by omega) HCw.out hk R.out.1 hcl).mono ?_
                    rintro e3 w5 ⟨r, x', d', rfl, hb5, hx1, hx2, hr, hd1, hd2⟩
                    have H6 : Hid (Below w3.heap.size w3 w5 ∧ (d = true → d' = true) ∧ (d' = true → x' = n)) := ⟨below_all R.out.2 hb5, hd1, hd2⟩
                    clear hb5 hd1 hd2
                    cases r with
                    | true =>
                      have hdd : d' = d := hr rfl
                      clear hr
                      cases d with
                      | true =>
                        cases d' with
                        | true =>
                          clear hdd
                          go_wp2_with fail
                          go_meet
                          case rel => exact ⟨x', true, rfl, rfl, hx1, hx2, fun _ => rfl, fun _ => H6.out.2.2 (by trivial), H6.out.1⟩
                        | false => exact absurd hdd (by decide)
                      | false =>
                        cases d' with
                        | true => exact absurd hdd (by decide)
                        | false =>
                          clear hdd
                          go_wp2_with fail
                          go_meet
                          case rel => exact ⟨x', false, rfl, rfl, hx1, hx2, fun h => h, (fun h => by cases h), H6.out.1⟩
                    | false =>
                      clear hr
                      go_wp2_with fail
                      go_meet
                      case rel => exact ⟨x', d', rfl, rfl, hx1, hx2, H6.out.2.1, H6.out.2.2, H6.out.1⟩
                  | false =>
                    have hcl : ¬ (93 : Int) = 0 := by decide
                    go_wp2_with fail
                    refine (zzMore20 n c' a' k d B 93 _ _ (by omega) HCw.out hk R.out.1 hcl).mono ?_
                    rintro e3 w5 ⟨r, x', d', rfl, hb5, hx1, hx2, hr, hd1, hd2⟩
                    have H6 : Hid (Below w3.heap.size w3 w5 ∧ (d = true → d' = true) ∧ (d' = true → x' = n)) := ⟨below_all R.out.2 hb5, hd1, hd2⟩
                    clear hb5 hd1 hd2
                    cases r with
                    | true =>
                      have hdd : d' = d := hr rfl
                      clear hr
                      cases d with
                      | true =>
                        cases d' with
                        | true =>
                          clear hdd
                          go_wp2_with fail
                          go_meet
                          case rel => exact ⟨x', true, rfl, rfl, hx1, hx2, fun _ => rfl, fun _ => H6.out.2.2 (by trivial), H6.out.1⟩
                        | false => exact absurd hdd (by decide)
                      | false =>
                        cases d' with
                        | true => exact absurd hdd (by decide)
                        | false =>
                          clear hdd
                          go_wp2_with fail
                          go_meet
                          case rel => exact ⟨x', false, rfl, rfl, hx1, hx2, fun h => h, (fun h => by cases h), H6.out.1⟩
                    | false =>
                      clear hr
                      go_wp2_with fail
                      go_meet
                      case rel => exact ⟨x', d', rfl, rfl, hx1, hx2, H6.out.2.1, H6.out.2.2, H6.out.1⟩
            case rest =>
              obtain ⟨k', d', rfl, rfl, hk1, hk2, hd1, hd2, hb7⟩ := hcut
              have H7 : Hid ((d' = true → k' = n) ∧ Below w3.heap.size w3 wc) := ⟨hd2, hb7⟩
              have t1 : ¬ (k' : Int) < (k : Int) := by omega
              have t2 : ¬ (n : Int) < (k' : Int) := by omega
              cases d' with
              | true =>
                have t3 : ((k' : Int) != (n : Int)) = false := by rw [bne_eq_false_iff_eq]; have := hd2 rfl; omega
                clear hd1 hd2 hb7 g1
                cases d with
                | true =>
                  go_wp2_with fail
                  go_roundg (gk - 1)
                  case measure => omega
                  case rel => exact ⟨k', j + 1, true, by omega, by go_num, rfl, rfl, hk2, fun _ => H7.out.1 (by trivial), H7.out.2⟩
                | false =>
                  go_wp2_with fail
                  go_roundg (gk - 1)
                  case measure => omega
                  case rel => exact ⟨k', j + 1, true, by omega, by go_num, rfl, rfl, hk2, fun _ => H7.out.1 (by trivial), H7.out.2⟩
              | false =>
                cases d with
                | true => exact absurd (hd1 rfl) (by decide)
                | false =>
                  clear hd1 hd2 hb7 g1
                  go_wp2_with fail
                  go_roundg (gk - 1)
                  case measure => omega
                  case rel => exact ⟨k', j + 1, false, by omega, by go_num, rfl, rfl, hk2, (fun h => by cases h), H7.out.2⟩
          · clear hd hbel
            go_wp2_with fail
            go_ret
            exact ⟨rfl, below_all H2.out.1 R.out.2⟩
      · go_wp2_with fail
        go_ret
        exact ⟨rfl, Below.refl _ _⟩
    · go_wp2_with fail
      go_ret
      exact ⟨rfl, Below.refl _ _⟩

end Go.Proofs.Qxb6602019a
