/-
  The law's own walk where the sizes fit.
-/
import Derived.Test.Qxb6605298aKey
import Derived.Test.Qxb6605298aLawOff
namespace Go.Proofs.Qxb6605298a
open Go.RowKit

theorem Cells.nil {w : World} {a : Option Addr} {n : Nat} {f : Nat → Value} (h : Cells w a n f) (e : a = none) : n = 0 := by
  by_cases hn : 0 < n
  · obtain ⟨b, off, ha, _⟩ := h hn
    rw [e] at ha
    cases ha
  · omega

theorem run_eql_keys (bk i j : Nat) (b : Bool) (hb : b = decide (i = j)) (w : World) :
    (binOp .eql 36 (.pointer (some ⟨bk, i, none⟩)) (.pointer (some ⟨bk, j, none⟩))).run Try.prog w = .ok (.bool b) w := by
  obtain ⟨x, hi, _, hs, _⟩ := info_parts info45
  have h : ∀ d : Nat, (Op.equalIn (d + 1) 36 (.pointer (some ⟨bk, i, none⟩)) (.pointer (some ⟨bk, j, none⟩))).run Try.prog w = .ok b w := fun d => by
    rw [hb]
    simp [Op.equalIn, run_underlying Try.underlying36, sizeOf, typeInfo, hi, hs, sameAddr]
    by_cases e : i = j <;> simp [e]
  simp only [binOp]
  simp [Op.equal, Op.maxDepth, h 9999]

theorem at_step {k i : Nat} : (if k + 1 ≤ i then (-1 : Int) else i) = (if ¬ k = i then (if k ≤ i then (-1 : Int) else i) else i) := by
  by_cases e : k = i
  · subst e; simp
  · by_cases l : k ≤ i
    · simp [e, l, show k + 1 ≤ i by omega]
    · simp [e, l, show ¬ k + 1 ≤ i by omega]

set_option maxRecDepth 100000 in
set_option maxHeartbeats 4000000 in
theorem law5_on (a0 a1 a2 a3 a5 : Option Addr) (n c0 c1 c2 c3 m c5 : Nat) (S : Nat → ByteArray) (B F K M : Nat → Int) (r : Int) (w : World)
    (hn : n ≤ 4096) (hm : m ≤ 65536)
    (h0 : Cells w a0 n (fun i => .string (S i))) (h1 : Cells w a1 n (fun i => .int .u64 (B i))) (h2 : Cells w a2 n (fun i => .int .i64 (F i))) (h3 : Cells w a3 n (fun i => .int .i64 (K i))) (h5 : Cells w a5 m (fun i => .int .u8 (M i))) :
    Calls Try.prog 5 #[.slice a0 n c0, .slice a1 n c1, .slice a2 n c2, .slice a3 n c3, .int .u64 r, .slice a5 m c5] w fun e w' => e = .returned (.bool true) ∧ Below w.heap.size w w' := by
  go_enter Try.func5, Try.ntmps5
  go_wp2_with fail
  refine (bytes11 a0 a1 a2 a3 a5 n c0 n c1 n c2 n c3 m c5 S r _ (by omega) h0).mono ?_
  rintro e w' ⟨⟨b, rfl⟩, rfl⟩
  cases b with
  | false =>
    go_wp2
    go_ret
    exact ⟨rfl, Below.refl _ _⟩
  | true =>
    go_wp2_with fail
    go_loop [13, 14] (fun z i => ∃ (k : Nat) (y : Int), k ≤ n ∧ i = .int .i64 k ∧ z = .int .i64 y) (fun _ i => n - (intOf i).toNat)
    case atStart => exact ⟨0, _, Nat.zero_le _, rfl, rfl⟩
    case round =>
      obtain ⟨k, y, hk, rfl, rfl⟩ := hrel
      by_cases hlt : k < n
      · obtain ⟨b, off, rfl, hc⟩ := h0 (by omega)
        have g := hc k hlt
        clear hc h0 h1 h2 h3 h5
        go_wp2
        · go_ret
          exact ⟨rfl, Below.refl _ _⟩
        · go_round
          case rel => exact ⟨k + 1, _, by omega, by go_num, rfl⟩
          case measure => simp [intOf]; omega
      · by_cases hy : 1048576 < y
        · go_wp2_with fail
          go_ret
          exact ⟨rfl, Below.refl _ _⟩
        go_wp2_with fail
        refine (clone12 a0 n c0 S _ hn h0.nil h0).mono ?_
        rintro e w1 ⟨b0, d0, rfl, hb1, g0⟩
        go_wp2_with fail
        refine (clone13 a1 n c1 B _ hn h1.nil (h1.later hb1)).mono ?_
        rintro e w2 ⟨b1, d1, rfl, hb2, g1⟩
        have B2 := below_all hb1 hb2
        go_wp2_with fail
        refine (clone14 a2 n c2 F _ hn h2.nil (h2.later B2)).mono ?_
        rintro e w3 ⟨b2, d2, rfl, hb3, g2⟩
        have B3 := below_all B2 hb3
        go_wp2_with fail
        refine (clone14 a3 n c3 K _ hn h3.nil (h3.later B3)).mono ?_
        rintro e w4 ⟨b3, d3, rfl, hb4, g3⟩
        have B4 := below_all B3 hb4
        go_wp2_with fail
        refine (clone15 a5 m c5 M _ hm h5.nil (h5.later B4)).mono ?_
        rintro e w5 ⟨b5, d5, rfl, hb5, g5⟩
        have B5 := below_all B4 hb5
        go_wp2_with fail
        refine (new16 b0 b1 b2 b3 n d0 d1 d2 d3 S B F K r _ hn (((g0.later hb2).later hb3).later hb4 |>.later hb5) (((g1.later hb3).later hb4).later hb5) ((g2.later hb4).later hb5) (g3.later hb5)).mono ?_
        rintro e w6 ⟨bs, bk, rfl, hb6, hM⟩
        have B6 := below_all B5 hb6
        have f0 : Cells w6 b0 n (fun i => .string (S i)) := ((((g0.later hb2).later hb3).later hb4).later hb5).later hb6
        have f1 : Cells w6 b1 n (fun i => .int .u64 (B i)) := (((g1.later hb3).later hb4).later hb5).later hb6
        have f2 : Cells w6 b2 n (fun i => .int .i64 (F i)) := ((g2.later hb4).later hb5).later hb6
        have f3 : Cells w6 b3 n (fun i => .int .i64 (K i)) := (g3.later hb5).later hb6
        have f5 : Cells w6 b5 m (fun i => .int .u8 (M i)) := g5.later hb6
        clear h0 h1 h2 h3 h5 g0 g1 g2 g3 g5 hb1 hb2 hb3 hb4 hb5 hb6 B2 B3 B4 B5
        go_wp2_with fail
        refine (key17 bs bk n S B F K b5 m d5 M _ hn hM f5 f5.nil).mono ?_
        rintro e w7 ⟨⟨q, hq⟩, hres⟩
        have hb7 : Below w6.heap.size w6 w7 := by rw [hq]; exact below_drewN w6 q
        clear hq
        have B7 := below_all B6 hb7
        have hM7 := hM.later hb7
        have e0 := f0.later hb7
        have e1 := f1.later hb7
        have e2 := f2.later hb7
        have e3 := f3.later hb7
        have hcv := convert_name b5 m d5 M w7 (f5.later hb7) f5.nil
        clear f0 f1 f2 f3 f5 hM hb7 B6
        generalize textOf M m = s at *
        rcases hres with ⟨rfl, hno⟩ | ⟨i, hi, rfl, hy', hno⟩
        · have HN : Hid (∀ i, i < n → ((S i).toList == s.toList) = false) := hno
          clear hno
          go_wp2_with fail
          go_loop [18] (fun j => ∃ k : Nat, k ≤ n ∧ j = .int .i64 k) (fun j => n - (intOf j).toNat)
          case atStart => exact ⟨0, Nat.zero_le _, rfl⟩
          case round =>
            obtain ⟨k', hk', rfl⟩ := hrel
            by_cases hlt' : k' < n
            · obtain ⟨b, off, rfl, hc⟩ := e0 (by omega)
              have g := hc k' hlt'
              have hf := HN.out k' hlt'
              clear hc e0 e1 e2 e3 hM7 hcv
              go_wp2
              go_round
              case rel => exact ⟨k' + 1, by omega, by go_num⟩
              case measure => simp [intOf]; omega
            · go_wp2
              go_ret
              exact ⟨rfl, B7⟩
        · have HN : Hid (((S i).toList == s.toList) = true ∧ ∀ j, j < i → ((S j).toList == s.toList) = false) := ⟨hy', hno⟩
          clear hno hy'
          go_wp2_with fail
          go_loop [19, 20] (fun t j => ∃ k : Nat, k ≤ n ∧ j = .int .i64 k ∧ t = .int .i64 (if k ≤ i then (-1 : Int) else i)) (fun _ j => n - (intOf j).toNat)
          case atStart => exact ⟨0, Nat.zero_le _, rfl, by simp⟩
          case round =>
            obtain ⟨k', hk', rfl, rfl⟩ := hrel
            by_cases hlt' : k' < n
            · have hh := hM7.head
              have HA : Hid _ := @at_step k' i
              generalize (if k' ≤ i then (-1 : Int) else i) = x at *
              clear e0 e1 e2 e3 hM7 hcv
              by_cases e : k' = i
              · subst e
                have heq := run_eql_keys bk (k' * 5) (k' * 5) true (by simp)
                go_wp2_with fail
                refine (at18 bs bk n k' _ hlt' hh).mono ?_
                rintro e w8 ⟨rfl, rfl⟩
                go_wp2_with fail
                go_round
                case rel => exact ⟨k' + 1, by omega, by go_num, by simp⟩
                case measure => simp [intOf]; omega
              · have heq := run_eql_keys bk (k' * 5) (i * 5) false (by simp; omega)
                go_wp2_with fail
                refine (at18 bs bk n k' _ hlt' hh).mono ?_
                rintro e w8 ⟨rfl, rfl⟩
                go_wp2_with fail
                go_round
                case rel => exact ⟨k' + 1, by omega, by go_num, by rw [HA.out, if_pos e]⟩
                case measure => simp [intOf]; omega
            · have : k' = n := by omega
              subst this
              have ei : (if k' ≤ i then (-1 : Int) else (i : Int)) = (i : Int) := by rw [if_neg (by omega)]
              rw [ei]
              obtain ⟨x0, o0, rfl, u0⟩ := e0 (by omega)
              obtain ⟨x1, o1, rfl, u1⟩ := e1 (by omega)
              obtain ⟨x2, o2, rfl, u2⟩ := e2 (by omega)
              obtain ⟨x3, o3, rfl, u3⟩ := e3 (by omega)
              have v0 := u0 i hi
              have v1 := u1 i hi
              have v2 := u2 i hi
              have v3 := u3 i hi
              have m0 := hM7.name i hi
              have m1 := hM7.bit i hi
              have m2 := hM7.field i hi
              have m3 := hM7.kind i hi
              have U : Hid (∀ i, i < k' → w7.cell? ⟨x0, o0 + i, none⟩ = some (.string (S i))) := u0
              have hyes := HN.out.1
              have hne : (!((S i).toList == s.toList)) = false := by rw [hyes]; rfl
              have b00 : (0 : Int) ≤ (i : Int) := by omega
              have b01 : (i : Int) < (k' : Int) := by omega
              clear u0 u1 u2 u3 hM7 hcv
              go_wp2_with fail
              go_loop [21] (fun j => ∃ k : Nat, k ≤ i ∧ j = .int .i64 k) (fun j => i - (intOf j).toNat)
              case atStart => exact ⟨0, Nat.zero_le _, rfl⟩
              case round =>
                obtain ⟨k2, hk2, rfl⟩ := hrel
                by_cases hlt2 : k2 < i
                · have g := U.out k2 (by omega)
                  have hf := HN.out.2 k2 hlt2
                  clear v0 v1 v2 v3 m0 m1 m2 m3
                  go_wp2
                  go_round
                  case rel => exact ⟨k2 + 1, by omega, by go_num⟩
                  case measure => simp [intOf]; omega
                · go_wp2_with fail
                  go_quiet ((first | (go_at_call 19; exact Calls.quiet_of_same (name19 bk (i * 5) (S i) _ m0)) | (go_at_call 20; exact Calls.quiet_of_same (bit20 bk (i * 5) (B i) _ m1)) | (go_at_call 21; exact Calls.quiet_of_same (field21 bk (i * 5) (F i) _ m2)) | (go_at_call 22; exact Calls.quiet_of_same (kind22 bk (i * 5) (K i) _ m3))))
                  go_wp2
                  go_ret
                  exact ⟨rfl, below_all B7 (below_drewN w7 _)⟩

theorem law5 (a0 a1 a2 a3 a5 : Option Addr) (n c0 n1 c1 n2 c2 n3 c3 m c5 : Nat) (S : Nat → ByteArray) (B F K M : Nat → Int) (r : Int) (w : World)
    (hn : n ≤ 9223372036854775807)
    (h0 : Cells w a0 n (fun i => .string (S i))) (h1 : Cells w a1 n1 (fun i => .int .u64 (B i))) (h2 : Cells w a2 n2 (fun i => .int .i64 (F i))) (h3 : Cells w a3 n3 (fun i => .int .i64 (K i))) (h5 : Cells w a5 m (fun i => .int .u8 (M i))) :
    Calls Try.prog 5 #[.slice a0 n c0, .slice a1 n1 c1, .slice a2 n2 c2, .slice a3 n3 c3, .int .u64 r, .slice a5 m c5] w fun e w' => e = .returned (.bool true) ∧ Below w.heap.size w w' := by
  by_cases hs : (n ≤ 4096 ∧ n1 ≤ 4096 ∧ n2 ≤ 4096 ∧ n3 ≤ 4096 ∧ m ≤ 65536) ∧ n1 = n ∧ n2 = n ∧ n3 = n
  · obtain ⟨⟨s0, _, _, _, s5⟩, rfl, rfl, rfl⟩ := hs
    exact law5_on a0 a1 a2 a3 a5 _ c0 c1 c2 c3 m c5 S B F K M r w s0 s5 h0 h1 h2 h3 h5
  · exact law5_off a0 a1 a2 a3 a5 n c0 n1 c1 n2 c2 n3 c3 m c5 S r w hn h0 hs

end Go.Proofs.Qxb6605298a
