/-
  FnHistoryKeepMatchesRingModel's own walk.
-/
import Derived.Test.Qxb6605552aClone
import Derived.Test.Qxb6605552aSmall
import Derived.Test.Qxb6605552aFields
import Derived.Test.Qxb6605552aKeep
namespace Go.Proofs.Qxb6605552a
open Go.RowKit

theorem cells_of_copy {w : World} {g n : Nat} {t : TypeId} {f : Nat → Value} {z : Value} (h : w.heap[g]? = some (.cells (splice (List.replicate n z) 0 ((List.range n).map f)).toArray t (0, 0))) : Cells w (some ⟨g, 0, none⟩) n f := by
  refine fun _ => ⟨g, 0, rfl, fun i hi => ?_⟩
  rw [cell_of_row w g (0 + i) _ t (0, 0) h]
  simp [splice, hi]

theorem Cells.nil {w : World} {a : Option Addr} {n : Nat} {f : Nat → Value} (h : Cells w a n f) (e : a = none) : n = 0 := by
  by_cases hn : 0 < n
  · obtain ⟨b, off, ha, _⟩ := h hn
    rw [e] at ha
    cases ha
  · omega

theorem new_step {wr : World} {b L2 bb d j : Nat} (hb : bb < L2) (hj : d + j < L2) (h : wr.rowIs b 4 L2 (fun s => .bool (decide (d ≤ idx bb L2 s ∧ idx bb L2 s < d + j)))) :
    (wr.setCell ⟨b, (bb + (d + j)) % L2, none⟩ (.bool true)).rowIs b 4 L2 (fun s => .bool (decide (d ≤ idx bb L2 s ∧ idx bb L2 s < d + (j + 1)))) := by
  refine (h.set ((bb + (d + j)) % L2) (.bool true)).congr fun s hs => ?_
  by_cases e : s = (bb + (d + j)) % L2
  · have hi : idx bb L2 s = d + j := by rw [e]; exact idx_place bb L2 (d + j) hb hj
    simp only [if_pos e]
    rw [hi]
    congr 1
    exact (decide_eq_true (by omega)).symm
  · have hne : idx bb L2 s ≠ d + j := fun x => e (by rw [← x, place_idx bb L2 s hb hs])
    simp only [if_neg e]
    congr 1
    exact decide_eq_decide.2 (by omega)

theorem used_step {wr : World} {b L2 bb j : Nat} (hb : bb < L2) (hj : j < L2) (h : wr.rowIs b 4 L2 (fun s => .bool (decide (idx bb L2 s < j)))) :
    (wr.setCell ⟨b, (bb + j) % L2, none⟩ (.bool true)).rowIs b 4 L2 (fun s => .bool (decide (idx bb L2 s < j + 1))) := by
  refine (h.set ((bb + j) % L2) (.bool true)).congr fun s hs => ?_
  by_cases e : s = (bb + j) % L2
  · have hi : idx bb L2 s = j := by rw [e]; exact idx_place bb L2 j hb hj
    simp only [if_pos e]
    rw [hi]
    congr 1
    exact (decide_eq_true (by omega)).symm
  · have hne : idx bb L2 s ≠ j := fun x => e (by rw [← x, place_idx bb L2 s hb hs])
    simp only [if_neg e]
    congr 1
    exact decide_eq_decide.2 (by omega)

theorem pos_ok {w : World} {V : Nat → Pay} {t : Pay} {H L n i : Nat} (hn : n ≤ L) (hV : ∀ i, i < L → PayOK w (V i)) (ht : PayOK w t) : PayOK w (pos V t H L n i) := by
  unfold pos
  split
  · exact hV _ (Nat.mod_lt _ (by omega))
  · exact ht

theorem Cells.at0 {w : World} {b n : Nat} {f : Nat → Value} (h : Cells w (some ⟨b, 0, none⟩) n f) {i : Nat} (hi : i < n) : w.cell? ⟨b, i, none⟩ = some (f i) := by
  obtain ⟨b', off, e, hc⟩ := h (by omega)
  simp at e
  obtain ⟨rfl, rfl⟩ := e
  simpa using hc i hi

theorem first_of {f : Nat → Int} {tot R d : Nat} (h1 : ∀ i, i < d → R < tot - cnt f i) (h2 : ¬ R < tot - cnt f d) : First f (tot - R) d :=
  ⟨by omega, fun i hi => by have := h1 i hi; omega⟩

theorem first_eq {f : Nat → Int} {tot R d : Nat} (h1 : ∀ i, i < d → R < tot - cnt f i) (h2 : ¬ R < tot - cnt f d) (h : R < tot) : tot - cnt f d = R := by
  cases d with
  | zero => simp only [cnt] at h2; omega
  | succ d =>
    have := h1 d (by omega)
    have hc : cnt f (d + 1) ≤ cnt f d + 1 := by simp only [cnt]; split <;> omega
    omega


theorem cell_later {w w' : World} {p : Addr} {v : Value} (h : w.cell? p = some v) (hb : Below w.heap.size w w') : w'.cell? p = some v := by
  rw [hb.cell (World.block_lt_of_cell? w _ h)]
  exact h

set_option maxRecDepth 100000 in
set_option maxHeartbeats 20000000 in
theorem law4 (R0 f : Int) (aM : Option Addr) (L cM : Nat) (aP : Option Addr) (LP cP : Nat) (h n m x : Int) (t : Pay) (M : Nat → Int) (V : Nat → Pay) (w : World)
    (hf0 : 0 ≤ f) (hf1 : f < 18446744073709551616) (hLP : LP ≤ 9223372036854775807)
    (hM : Cells w aM L (fun i => .int .i32 (M i))) (hV : Cells w aP LP (fun i => pv (V i))) (hVB : ∀ i, i < LP → ∃ B : Nat → Int, Cells w (V i).1 (V i).2.1 (fun i => .int .u8 (B i))) (hT : ∃ B : Nat → Int, Cells w t.1 t.2.1 (fun i => .int .u8 (B i))) :
    Calls Try.prog 4 #[.int .i64 R0, .int .u64 f, .slice aM L cM, .slice aP LP cP, .int .i64 h, .int .i64 n, .int .i64 m, .int .i64 x, .slice t.1 t.2.1 t.2.2] w fun e w' => e = .returned (.bool true) ∧ Below w.heap.size w w' := by
  have HVB : Hid (∀ i, i < LP → ∃ B : Nat → Int, Cells w (V i).1 (V i).2.1 (fun i => .int .u8 (B i))) := hVB
  clear hVB
  have HT : Hid (∃ B : Nat → Int, Cells w t.1 t.2.1 (fun i => .int .u8 (B i))) := hT
  clear hT
  have q27 : ∀ (w : World) (a : Option Addr) (n c n' c' : Nat), (binOp .neq 27 (.slice a n c) (.slice none n' c')).run Try.prog w = .ok (.bool (!a.isNone)) w := fun w a n c n' c' => run_neq_slice_nil_any w _ _ a n c n' c' Try.underlying27
  go_enter Try.func4, Try.ntmps4
  go_wp2_with fail
  refine (bytes8 R0 f aM aP t.1 L cM LP cP t.2.1 t.2.2 V h n m x _ hLP hV).mono ?_
  rintro e w' ⟨⟨b, rfl⟩, rfl⟩
  cases b with
  | false =>
    go_wp2
    go_ret
    exact ⟨rfl, Below.refl _ _⟩
  | true =>
    by_cases hsz : L ≤ 65536 ∧ LP ≤ 65536 ∧ t.2.1 ≤ 1048576
    · obtain ⟨s0, s1, s2⟩ := hsz
      go_upto_if 76 with (fail)
      go_cut [2] from 75 to 83 (fun v w' => ∃ a c, v = .slice a L c ∧ Cells w' a L (fun i => .int .i32 (M i)) ∧ Below w.heap.size w w')
      case first =>
        have hmk := run_make_row' (P := Try.prog) 27 21 (.int .i32 0) 4 Try.underlying27 info21 rfl .i64 .i64 L (by omega) (by omega)
        cases aM with
        | none =>
          go_wp2_with fail
          go_meet
          case rel => exact ⟨none, cM, rfl, hM, Below.refl _ _⟩
        | some a =>
          have hb0 : Below w.heap.size w (w.alloc (.cells (madeCells #[.int .i32 0] L) 21)) := (Below.refl _ _).alloc (Nat.le_refl _) _
          have hg : (w.alloc (.cells (madeCells #[.int .i32 0] L) 21)).heap[w.heap.size]? = some (.cells (List.replicate L (.int .i32 0)).toArray 21 (0, 0)) := by
            rw [heap_alloc_new, ← toList_madeCells_one]
          go_wp2_with (refine wpList_copy_splice rfl _ _ 27 27 rfl 21 Try.underlying27 (by kernel_rfl) _ _ _ _ _ _ rfl rfl w.heap.size 0 (List.replicate L (.int .i32 0)) 21 hg ((List.range L).map fun i => .int .i32 (M i)) ?c1 ?c2 ?c3 ?c4 w.heap.size w hb0 (Nat.le_refl _) ?_)
          case c1 => simp
          case c2 =>
            intro hn0 j y hy
            obtain ⟨b, off, e, hc⟩ := hM hn0
            obtain rfl := Option.some.inj e
            obtain ⟨hj, rfl⟩ : j < L ∧ y = j := by
              obtain ⟨h1, h2⟩ := List.getElem?_eq_some_iff.1 hy
              simp at h1 h2
              exact ⟨h1, h2.symm⟩
            rw [Addr.add_lit, hb0.cell (World.block_lt_of_cell? w _ (hc y hj))]
            exact hc y hj
          case c3 => simp
          case c4 =>
            intro v hv
            obtain ⟨i, _, rfl⟩ := List.mem_map.1 hv
            rfl
          intro w' hrow hbel
          clear hmk hb0 hg
          go_wp2_with fail
          go_meet
          case rel => exact ⟨some ⟨w.heap.size, 0, none⟩, L, rfl, cells_of_copy hrow.out, hbel⟩
      case rest =>
        obtain ⟨a1, c1, hv, hM1, hB1⟩ := hcut
        subst hv
        clear q27 hM
        have HV1 := hV.later hB1
        by_cases hs4 : 4 * L + 24 * LP + t.2.1 ≤ 1048576
        · go_wp2_with fail
          go_loop [20, 21] (fun z i => ∃ (k : Nat) (y : Int), k ≤ LP ∧ i = .int .i64 k ∧ z = .int .i64 y ∧ 0 ≤ y ∧ y ≤ 1048576 ∧ ∀ i, i < k → (V i).2.1 ≤ 1048576) (fun _ i => LP - (intOf i).toNat)
          case atStart => exact ⟨0, _, Nat.zero_le _, rfl, rfl, by omega, by omega, fun i hi => absurd hi (by omega)⟩
          case round =>
            obtain ⟨k, y, hk, rfl, rfl, hy0, hy1, hlen⟩ := hrel
            by_cases hlt : k < LP
            · skip
              obtain ⟨b, off, rfl, hc⟩ := HV1 (by omega)
              have g : wc.cell? ⟨b, off + k, none⟩ = some (.slice (V k).1 (V k).2.1 (V k).2.2) := hc k hlt
              have HL : Hid (∀ i, i < k → (V i).2.1 ≤ 1048576) := hlen
              clear hc HV1 hlen hV hM1
              by_cases hl : (V k).2.1 ≤ 1048576
              · by_cases hy : y + (V k).2.1 ≤ 1048576
                · go_wp2_with fail
                  go_round
                  case rel => exact ⟨k + 1, _, by omega, by go_num, rfl, by omega, by omega, fun i hi => if e : i = k then e ▸ hl else HL.out i (by omega)⟩
                  case measure => simp [intOf]; omega
                · go_wp2_with fail
                  go_ret
                  exact ⟨rfl, hB1⟩
              · go_wp2_with fail
                go_ret
                exact ⟨rfl, hB1⟩
            · have HL : Hid (∀ i, i < LP → (V i).2.1 ≤ 1048576) := fun i hi => hlen i (by omega)
              clear hlen
              by_cases e1 : LP = L
              · subst e1
                by_cases e2 : LP = 0 ∨ (¬ LP = 0 ∧ LP &&& (LP - 1) = 0)
                · have hpow : LP = 0 ∨ ∃ k, LP = 2 ^ k := by
                    rcases e2 with e | ⟨e, e'⟩
                    · exact .inl e
                    · exact .inr (pow_of_and LP (by omega) e')
                  have HPOW : Hid (LP = 0 ∨ ∃ k, LP = 2 ^ k) := hpow
                  have tt : (((LP : Int) != 0) = false) ∨ (((LP : Int) != 0) = true ∧ (bits .and .i64 (LP : Int) ((LP : Int) - 1) != 0) = false) := by
                    rcases e2 with e | ⟨e, e'⟩
                    · exact .inl (by rw [bne_eq_false_iff_eq]; omega)
                    · refine .inr ⟨by rw [bne_iff_ne]; omega, ?_⟩
                      rw [bne_eq_false_iff_eq, show ((LP : Int) - 1) = ((LP - 1 : Nat) : Int) by omega, bits_and_nat LP (LP - 1) (by omega) (by omega), e']
                      rfl
                  have TT : Hid _ := tt
                  clear tt hpow e2
                  go_upto_region 23 with (fail)
                  go_cut [131] from 62 to 131 (fun v w' => v = .bool false ∧ wc = w')
                  case first =>
                    skip
                    rcases TT.out with t1 | ⟨t1, t2⟩
                    all_goals
                      go_wp2_with fail
                      go_meet
                      case rel => exact ⟨rfl, rfl⟩
                  case rest =>
                    obtain ⟨hv, hw⟩ := hcut
                    subst hv
                    subst hw
                    clear TT
                    by_cases e3 : 0 ≤ n ∧ n ≤ LP
                    · obtain ⟨e30, e31⟩ := e3
                      obtain ⟨N, rfl⟩ := Int.eq_ofNat_of_zero_le e30
                      by_cases e4 : LP = 0 ∨ (0 ≤ h ∧ h < LP)
                      · obtain ⟨H, hH⟩ : ∃ H : Nat, 0 < LP → h = (H : Int) ∧ H < LP := by
                          rcases e4 with e | ⟨e, e'⟩
                          · exact ⟨0, fun h => by omega⟩
                          · obtain ⟨H, rfl⟩ := Int.eq_ofNat_of_zero_le e
                            exact ⟨H, fun _ => ⟨rfl, by omega⟩⟩
                        have HH : Hid (0 < LP → h = (H : Int) ∧ H < LP) := hH
                        clear hH
                        have tt : (¬ 0 < LP) ∨ (0 < LP ∧ ¬ h < 0 ∧ ¬ (LP : Int) ≤ h) := by omega
                        have TT : Hid ((¬ 0 < LP) ∨ (0 < LP ∧ ¬ h < 0 ∧ ¬ (LP : Int) ≤ h)) := tt
                        clear tt e4
                        go_upto_region 27 with (fail)
                        go_cut [149] from 62 to 149 (fun v w' => v = .bool false ∧ wc = w')
                        case first =>
                          skip
                          rcases TT.out with t1 | ⟨t1, t2, t3⟩
                          all_goals
                            go_wp2_with fail
                            go_meet
                            case rel => exact ⟨rfl, rfl⟩
                        case rest =>
                          obtain ⟨hv, hw⟩ := hcut
                          subst hv
                          subst hw
                          clear TT
                          by_cases e5 : 0 ≤ R0
                          · obtain ⟨R, rfl⟩ := Int.eq_ofNat_of_zero_le e5
                            by_cases e6 : -2147483648 ≤ x ∧ x ≤ 2147483647
                            · obtain ⟨x1, x2⟩ := e6
                              go_wp2_with fail
                              refine (window9 a1 LP c1 M h H N _ (by omega) HPOW.out (by omega) HH.out hM1).mono ?_
                              rintro e w2 ⟨rfl, rfl⟩
                              by_cases e7 : m = (cnt (fun k => M ((H + k) % LP)) N : Nat)
                              · subst e7
                                have hmm : cnt (fun k => M ((H + k) % LP)) N = cnt (pos M x H LP N) N := cnt_congr _ _ N (fun i hi => by simp [pos, hi])
                                generalize cnt (fun k => M ((H + k) % LP)) N = mm at *
                                have HMM : Hid (mm = cnt (pos M x H LP N) N) := hmm
                                clear hmm
                                have hP1 : Hid (∀ i, i < LP → PayOK wc (V i)) := fun i hi => by
                                  obtain ⟨B, hB⟩ := HVB.out i hi
                                  exact ⟨HL.out i hi, B, hB.later hB1⟩
                                have hT1 : Hid (∃ B : Nat → Int, Cells wc t.1 t.2.1 (fun i => .int .u8 (B i))) := by
                                  obtain ⟨B, hB⟩ := HT.out
                                  exact ⟨B, hB.later hB1⟩
                                clear HVB HT hV
                                go_wp2_with fail
                                refine (clone10 aP LP cP V _ (by omega) HV1 hP1.out).mono ?_
                                rintro e w3 ⟨a3, c3, V3, rfl, hb3, hV3, hP3⟩
                                have HP3 : Hid (∀ i, i < LP → PayOK w3 (V3 i)) := hP3
                                clear hP3 hP1 HV1
                                obtain ⟨BT, hBT⟩ := hT1.out
                                go_wp2_with fail
                                refine (clone11 t.1 t.2.1 t.2.2 BT _ s2 (hBT.later hb3)).mono ?_
                                rintro e w4 ⟨t4, rfl, hb4, ht4, -⟩
                                have hM4 := (hM1.later hb3).later hb4
                                have hV4 := hV3.later hb4
                                have hB4 := below_all (below_all hB1 hb3) hb4
                                have HP4 : Hid (∀ i, i < LP → PayOK w4 (V3 i)) := fun i hi => (HP3.out i hi).later hb4
                                clear hBT hT1 hM1 hV3 hB1 hb3 hb4 HP3
                                go_wp2_with fail
                                refine (make12 R f h N mm a1 a3 LP c1 c3 M V3 _ (by omega) hM4 hV4).mono ?_
                                rintro e w5 ⟨bs, br, rfl, hb5, hHS, hRing, hbr, hbs⟩
                                obtain ⟨L2, hL2⟩ : ∃ L2, L2 = if N = LP then grow LP else LP := ⟨_, rfl⟩
                                obtain ⟨bb, hbb⟩ : ∃ bb, bb = if N = LP then 0 else H := ⟨_, rfl⟩
                                have HL2 : Hid ((L2 = if N = LP then grow LP else LP) ∧ bb = if N = LP then 0 else H) := ⟨hL2, hbb⟩
                                clear hL2 hbb
                                go_wp2_with fail
                                refine (keep13 bs br LP R f h H N mm M V3 x t4 _ (by omega) HPOW.out (by omega) (fun h0 => (HH.out h0).1) (fun h0 => (HH.out h0).2) x1 x2 hf0 hf1 HMM.out hHS hRing (by omega) L2 bb HL2.out.1 HL2.out.2).mono ?_
                                rintro e w6 ⟨rfl, bx, d, hHS6, hRing6, hW6, hd, hgo, hstop⟩
                                have hB46 : Below w4.heap.size w4 w6 := hb5.trans (hW6.below (by omega) (by omega) hb5.size)
                                have hL2le : L2 ≤ 131072 := by
                                  rw [HL2.out.1]
                                  split
                                  · exact grow_le LP (by omega)
                                  · omega
                                have HGO : Hid ((∀ i, i < d → R < cnt (pos M x H LP N) (N + 1) - cnt (pos M x H LP N) i) ∧ ¬ R < cnt (pos M x H LP N) (N + 1) - cnt (pos M x H LP N) d) := ⟨hgo, hstop⟩
                                clear hgo hstop hHS hRing hW6 hb5 hbr hbs
                                go_wp2_with fail
                                refine (fields14 bs bx L2 R (fst f d) _ _ _ _ _ _ (by omega) hHS6 hRing6).mono ?_
                                rintro e w7 ⟨⟨bm, bp, rfl, hgm, hgp⟩, hb7⟩
                                have cM := (hM4.later hB46).later hb7
                                have cP := (hV4.later hB46).later hb7
                                have HP7 : Hid ((∀ i, i < LP → PayOK w7 (V3 i)) ∧ PayOK w7 t4) := ⟨fun i hi => ((HP4.out i hi).later hB46).later hb7, (ht4.later hB46).later hb7⟩
                                have hB7 : Below w.heap.size w w7 := below_all (below_all hB4 hB46) hb7
                                clear hHS6 hRing6 hM4 hV4 HP4 ht4 hB4 hB46 hb7
                                have hmk1 := run_make_row' (P := Try.prog) 27 21 (.int .i32 0) 4 Try.underlying27 info21 rfl .i64 .i64 (N + 1) (by omega) (by omega)
                                have hmk2 := run_make_row' (P := Try.prog) 28 29 (.slice none 0 0) 24 Try.underlying28 info29 rfl .i64 .i64 (N + 1) (by omega) (by omega)
                                rw [show ((N + 1 : Nat) : Int) = (N : Int) + 1 by omega] at hmk1 hmk2
                                have HG : Hid (Cells w7 (some ⟨bm, 0, none⟩) L2 _ ∧ Cells w7 (some ⟨bp, 0, none⟩) L2 _) := ⟨hgm, hgp⟩
                                clear hgm hgp
                                generalize hxm : (bb + d) % L2 = wh at *
                                have HWH : Hid ((bb + d) % L2 = wh) := hxm
                                clear hxm
                                go_wp2_with fail
                                go_loopw [33, 34] (fun i _ wr => ∃ k : Nat, k ≤ N ∧ i = .int .i64 k ∧ wr.rowIs w7.heap.size 21 (N + 1) (fun i => if i < k then .int .i32 (pos M x H LP N i) else .int .i32 0) ∧ wr.rowIs (w7.heap.size + 1) 29 (N + 1) (fun i => if i < k then pv (pos V3 t4 H LP N i) else .slice none 0 0) ∧ Below w7.heap.size w7 wr) (fun i _ _ => N - (intOf i).toNat)
                                case atStart =>
                                  refine ⟨0, Nat.zero_le _, rfl, ?_, ?_, ((Below.refl _ _).alloc (Nat.le_refl _) _).alloc (by simp) _⟩
                                  · exact ((World.rowIs_made w7 _ (N + 1) _).congr (fun i _ => by simp)).alloc _
                                  · have e := World.rowIs_made (w7.alloc (.cells (madeCells #[.int .i32 0] (N + 1)) 21)) (.slice none 0 0) (N + 1) 29
                                    rw [World.size_alloc] at e
                                    exact e.congr (fun i _ => by simp)
                                case round =>
                                  obtain ⟨k2, hk2, rfl, hr1, hr2, hbel⟩ := hrel
                                  by_cases hlt2 : k2 < N
                                  · skip
                                    obtain ⟨eh, hHl⟩ := HH.out (by omega)
                                    subst eh
                                    have hpw : ∃ k, LP = 2 ^ k := by
                                      rcases HPOW.out with e | e
                                      · omega
                                      · exact e
                                    have hmk3 := mask2 LP H k2 (by omega) hpw (by omega) (by omega)
                                    have hsl : (H + k2) % LP < LP := Nat.mod_lt _ (by omega)
                                    obtain ⟨b1, o1, rfl, u1⟩ := cM.later hbel (by omega)
                                    obtain ⟨b2, o2, rfl, u2⟩ := cP.later hbel (by omega)
                                    have v1 := u1 _ hsl
                                    have v2 : wr.cell? ⟨b2, o2 + (H + k2) % LP, none⟩ = some (.slice (V3 ((H + k2) % LP)).1 (V3 ((H + k2) % LP)).2.1 (V3 ((H + k2) % LP)).2.2) := u2 _ hsl
                                    have k1lt : b1 < w7.heap.size := by
                                      obtain ⟨b1', o1', e, u⟩ := cM (by omega)
                                      have := World.block_lt_of_cell? w7 _ (u 0 (by omega))
                                      simp at e this
                                      omega
                                    have k2lt : b2 < w7.heap.size := by
                                      obtain ⟨b1', o1', e, u⟩ := cP (by omega)
                                      have := World.block_lt_of_cell? w7 _ (u 0 (by omega))
                                      simp at e this
                                      omega
                                    have n1 : ¬ w7.heap.size = b1 := by omega
                                    have n2 : ¬ w7.heap.size = b2 := by omega
                                    have n3 : ¬ w7.heap.size + 1 = b1 := by omega
                                    have n4 : ¬ w7.heap.size + 1 = b2 := by omega
                                    have g1 := hr1.cell (i := k2) (by omega)
                                    have g2 := hr2.cell (i := k2) (by omega)
                                    have z1 := hr1.frozen k2
                                    have z2 := hr2.frozen k2
                                    simp at g1 g2
                                    have p1 : pos M x H LP N k2 = M ((H + k2) % LP) := by simp [pos, hlt2]
                                    have p2 : pos V3 t4 H LP N k2 = V3 ((H + k2) % LP) := by simp [pos, hlt2]
                                    have R1 := (copy_step (f := fun i => .int .i32 (pos M x H LP N i)) hr1).setOther (a := ⟨w7.heap.size + 1, k2, none⟩) (by simp) (pv (pos V3 t4 H LP N k2))
                                    have R2 := copy_step (f := fun i => pv (pos V3 t4 H LP N i)) (hr2.setOther (a := ⟨w7.heap.size, k2, none⟩) (by simp) (.int .i32 (pos M x H LP N k2)))
                                    rw [p1, p2] at R1 R2
                                    have R3 := (hbel.setCell (p := ⟨w7.heap.size, k2, none⟩) (Nat.le_refl _) (.int .i32 (M ((H + k2) % LP)))).setCell (p := ⟨w7.heap.size + 1, k2, none⟩) (by simp) (pv (V3 ((H + k2) % LP)))
                                    have RR : Hid (_ ∧ _ ∧ _) := ⟨R1, R2, R3⟩
                                    clear R1 R2 R3 hr1 hr2 hbel u1 u2 p1 p2 cM cP hmk1 hmk2 hpw
                                    generalize (H + k2) % LP = s at *
                                    have b00 : (0 : Int) ≤ (s : Int) := by omega
                                    have b01 : (s : Int) < (LP : Int) := by omega
                                    go_wp2_with fail
                                    go_roundw
                                    case rel => exact ⟨k2 + 1, by omega, by go_num, RR.out.1, RR.out.2.1, RR.out.2.2⟩
                                    case measure => simp [intOf]; omega
                                  · have ek : k2 = N := by omega
                                    subst ek
                                    have g1 := hr1.cell (i := k2) (by omega)
                                    have g2 := hr2.cell (i := k2) (by omega)
                                    have z1 := hr1.frozen k2
                                    have z2 := hr2.frozen k2
                                    simp at g1 g2
                                    have p1 : pos M x H LP k2 k2 = x := by simp [pos]
                                    have p2 : pos V3 t4 H LP k2 k2 = t4 := by simp [pos]
                                    have R1 := (copy_step (f := fun i => .int .i32 (pos M x H LP k2 i)) hr1).setOther (a := ⟨w7.heap.size + 1, k2, none⟩) (by simp) (pv (pos V3 t4 H LP k2 k2))
                                    have R2 := copy_step (f := fun i => pv (pos V3 t4 H LP k2 i)) (hr2.setOther (a := ⟨w7.heap.size, k2, none⟩) (by simp) (.int .i32 (pos M x H LP k2 k2)))
                                    rw [p1, p2] at R1 R2
                                    have R3 := (hbel.setCell (p := ⟨w7.heap.size, k2, none⟩) (Nat.le_refl _) (.int .i32 x)).setCell (p := ⟨w7.heap.size + 1, k2, none⟩) (by simp) (pv t4)
                                    have cL := Cells.of_row (R1.congr (g := fun i => .int .i32 (pos M x H LP k2 i)) fun i hi => by simp [hi])
                                    have cQ := Cells.of_row (R2.congr (g := fun i => pv (pos V3 t4 H LP k2 i)) fun i hi => by simp [hi])
                                    have RR : Hid (_ ∧ _ ∧ _) := ⟨cL, cQ, R3⟩
                                    clear R1 R2 R3 hr1 hr2 hbel p1 p2 cL cQ hmk1 hmk2
                                    go_wp2_with fail
                                    go_loopw [35, 36] (fun c i wr => ∃ k : Nat, k ≤ k2 + 1 ∧ i = .int .i64 k ∧ c = .int .i64 (cnt (pos M x H LP k2) k) ∧ Cells wr (some ⟨w7.heap.size, 0, none⟩) (k2 + 1) (fun i => .int .i32 (pos M x H LP k2 i)) ∧
                                      Cells wr (some ⟨w7.heap.size + 1, 0, none⟩) (k2 + 1) (fun i => pv (pos V3 t4 H LP k2 i)) ∧ Below w7.heap.size w7 wr) (fun _ i _ => k2 + 1 - (intOf i).toNat)
                                    case atStart => exact ⟨0, Nat.zero_le _, rfl, rfl, RR.out.1, RR.out.2.1, RR.out.2.2⟩
                                    case round =>
                                      clear RR g1 g2 z1 z2
                                      obtain ⟨k3, hk3, rfl, rfl, cL, cQ, hB8⟩ := hrel
                                      have hcl := cnt_le (pos M x H LP k2) k3
                                      by_cases hlt3 : k3 < k2 + 1
                                      · skip
                                        have g := cL.at0 hlt3
                                        have HS3 : Hid (cnt (pos M x H LP k2) (k3 + 1) = cnt (pos M x H LP k2) k3 + (if 0 ≤ pos M x H LP k2 k3 then 1 else 0)) := rfl
                                        have FF : Hid (_ ∧ _ ∧ _) := ⟨cL, cQ, hB8⟩
                                        clear cL cQ hB8 cM cP
                                        by_cases hpp : 0 ≤ pos M x H LP k2 k3
                                        · go_wp2_with fail
                                          go_roundw
                                          case rel => exact ⟨k3 + 1, by omega, by go_num, by rw [HS3.out, if_pos hpp]; go_num, FF.out.1, FF.out.2.1, FF.out.2.2⟩
                                          case measure => simp [intOf]; omega
                                        · go_wp2_with fail
                                          go_roundw
                                          case rel => exact ⟨k3 + 1, by omega, by go_num, by rw [HS3.out, if_neg hpp]; rfl, FF.out.1, FF.out.2.1, FF.out.2.2⟩
                                          case measure => simp [intOf]; omega
                                      · have ek3 : k3 = k2 + 1 := by omega
                                        subst ek3
                                        generalize htot : cnt (pos M x H LP k2) (k2 + 1) = tot at *
                                        have HTOT : Hid (cnt (pos M x H LP k2) (k2 + 1) = tot) := htot
                                        clear htot
                                        go_upto_if 245 with (fail)
                                        go_cut [37, 38] from 230 to 251 (fun a b w' => a = .int .i64 d ∧ b = .int .i64 (tot - cnt (pos M x H LP k2) d : Nat) ∧ wr = w')
                                        case first =>
                                          skip
                                          by_cases hRt : R < tot
                                          · have t1 : (R : Int) < (tot : Int) := by omega
                                            go_wp2_with fail
                                            rw [show (tot : Int) - (R : Int) = ((tot - R : Nat) : Int) by omega]
                                            refine (after15 _ (k2 + 1) _ (pos M x H LP k2) (tot - R) _ (by omega) (by omega) (by rw [HTOT.out]; omega) cL).mono ?_
                                            rintro e w9 ⟨⟨d', rfl, hfd, hd'⟩, rfl⟩
                                            have edd : d' = d := hfd.uniq (first_of HGO.out.1 HGO.out.2)
                                            have HD : Hid (d' = d ∧ tot - cnt (pos M x H LP k2) d = R) := ⟨edd, first_eq HGO.out.1 HGO.out.2 hRt⟩
                                            clear edd hfd
                                            go_wp2_with fail
                                            go_meet
                                            case rel => exact ⟨by rw [HD.out.1], by rw [HD.out.2], rfl⟩
                                          · have t1 : ¬ (R : Int) < (tot : Int) := by omega
                                            have ed : d = 0 := by
                                              by_cases h0 : d = 0
                                              · exact h0
                                              · have := HGO.out.1 0 (by omega)
                                                simp only [cnt] at this
                                                omega
                                            have HD : Hid (d = 0) := ed
                                            clear ed
                                            go_wp2_with fail
                                            go_meet
                                            case rel => exact ⟨by rw [HD.out]; rfl, by rw [HD.out]; rfl, rfl⟩
                                        case rest =>
                                          obtain ⟨hv1, hv2, hw⟩ := hcut
                                          subst hv1
                                          subst hv2
                                          subst hw
                                          have hL2p : k2 < L2 := by
                                            rw [HL2.out.1]
                                            split
                                            · have := grow_gt LP; omega
                                            · omega
                                          have hbbl : bb < L2 := by
                                            rw [HL2.out.1, HL2.out.2]
                                            split
                                            · have := grow_gt LP; omega
                                            · exact (HH.out (by omega)).2
                                          have hpw2 : Hid (∃ k, L2 = 2 ^ k) := by
                                            unfold Hid
                                            rw [HL2.out.1]
                                            split
                                            · exact grow_pow LP HPOW.out
                                            · rcases HPOW.out with e | e
                                              · omega
                                              · exact e
                                          go_upto_if 257 with (fail)
                                          go_cut [39, 40, 41] from 252 to 261 (fun c a b w' => c = .bool (decide (k2 = LP)) ∧ a = .int .i64 L2 ∧ b = .int .i64 bb ∧ wr = w')
                                          case first =>
                                            skip
                                            by_cases hful : k2 = LP
                                            · have t1 : ((k2 : Int) == (LP : Int)) = true := by rw [beq_iff_eq]; omega
                                              have HE : Hid (L2 = grow LP ∧ bb = 0 ∧ decide (k2 = LP) = true) := ⟨by rw [HL2.out.1, if_pos hful], by rw [HL2.out.2, if_pos hful], by simpa using hful⟩
                                              have HG2 : Hid (grow LP = if 64 < 2 * LP then 2 * LP else 64) := rfl
                                              clear hful
                                              by_cases h64 : 2 * (LP : Int) < 64
                                              · go_wp2_with fail
                                                go_meet
                                                case rel => exact ⟨by first | (rw [HE.out.2.2, t1]; done) | (rw [HE.out.2.2]; done), by rw [HE.out.1, HG2.out, if_neg (by omega)]; rfl, by rw [HE.out.2.1]; rfl, rfl⟩
                                              · go_wp2_with fail
                                                go_meet
                                                case rel =>
                                                  refine ⟨by first | (rw [HE.out.2.2, t1]; done) | (rw [HE.out.2.2]; done), ?_, by rw [HE.out.2.1]; rfl, rfl⟩
                                                  rw [HE.out.1, HG2.out]
                                                  split
                                                  · congr 1
                                                  · congr 1; omega
                                            · have t1 : ((k2 : Int) == (LP : Int)) = false := by rw [beq_eq_false_iff_ne]; omega
                                              have HE : Hid (L2 = LP ∧ bb = H ∧ h = (H : Int) ∧ decide (k2 = LP) = false) := ⟨by rw [HL2.out.1, if_neg hful], by rw [HL2.out.2, if_neg hful], (HH.out (by omega)).1, by simpa using hful⟩
                                              go_wp2_with fail
                                              go_meet
                                              case rel => exact ⟨by first | (rw [HE.out.2.2.2, t1]; done) | (rw [HE.out.2.2.2]; done), by rw [HE.out.1], by rw [HE.out.2.1, HE.out.2.2.1], rfl⟩
                                          case rest =>
                                            obtain ⟨hv0, hv1, hv2, hw⟩ := hcut
                                            subst hv0
                                            subst hv1
                                            subst hv2
                                            subst hw
                                            obtain ⟨w8, hw8⟩ : ∃ w8, w8 = wr := ⟨_, rfl⟩
                                            subst hw8
                                            have hmkh := mask2 L2 bb d (by omega) hpw2.out (by omega) (by omega)
                                            rw [HWH.out] at hmkh
                                            have ewn : ((k2 + 1 - d : Nat) : Int) = (k2 : Int) + 1 - (d : Int) := by omega
                                            have hfst := fst_add f d (by omega)
                                            rw [HTOT.out] at *
                                            have hmk4 := run_make_row' (P := Try.prog) 25 4 (.bool false) 1 Try.underlying25 info4 rfl .i64 .i64 L2 (by omega) (by omega)
                                            have hwh : wh < L2 := by rw [← HWH.out]; exact Nat.mod_lt _ (by omega)
                                            have HPP : Hid (∀ i, PayOK w8 (pos V3 t4 H LP k2 i)) := fun i => (pos_ok (by omega) HP7.out.1 HP7.out.2).later hB8
                                            have cg1 := HG.out.1.later hB8
                                            have cg2 := HG.out.2.later hB8
                                            have cM8 := cM.later hB8
                                            have cP8 := cP.later hB8
                                            have HP8 : Hid (∀ i, i < LP → PayOK w8 (V3 i)) := fun i hi => (HP7.out.1 i hi).later hB8
                                            have hB9 := below_all hB7 hB8
                                            clear HP7 HG cM cP hB7 hB8
                                            go_wp2_with fail
                                            go_loopw [45, 46] (fun i _ wr => ∃ j : Nat, j ≤ k2 + 1 - d ∧ i = .int .i64 j ∧ wr.rowIs w8.heap.size 4 L2 (fun s => .bool (decide (d ≤ idx bb L2 s ∧ idx bb L2 s < d + j))) ∧ Below w8.heap.size w8 wr) (fun i _ _ => k2 + 1 - d - (intOf i).toNat)
                                            case atStart => exact ⟨0, Nat.zero_le _, rfl, (World.rowIs_made _ _ _ _).congr (fun s _ => by congr 1; exact (decide_eq_false (by omega)).symm), (Below.refl _ _).alloc (Nat.le_refl _) _⟩
                                            case round =>
                                              obtain ⟨j, hj, rfl, hrow, hbel⟩ := hrel
                                              by_cases hltj : j < k2 + 1 - d
                                              · skip
                                                have hmj : (wh + j) % L2 = (bb + (d + j)) % L2 := by rw [← HWH.out, ← Nat.add_assoc, Nat.mod_add_mod]
                                                have hmkj := mask2 L2 wh j (by omega) hpw2.out (by omega) (by omega)
                                                rw [hmj] at hmkj
                                                have hsl : (bb + (d + j)) % L2 < L2 := Nat.mod_lt _ (by omega)
                                                have hrow2 := new_step hbbl (show d + j < L2 by omega) hrow
                                                have g0 := hrow.cell hsl
                                                have z0 := hrow.frozen ((bb + (d + j)) % L2)
                                                have g1 := (cg1.later hbel).at0 hsl
                                                have g2 := (cg2.later hbel).at0 hsl
                                                rw [place_at _ _ _ bb L2 k2 d (d + j) hbbl (by omega) (by omega) (by omega)] at g1 g2
                                                have g3 := (cL.later hbel).at0 (i := d + j) (by omega)
                                                have g4 := (cQ.later hbel).at0 (i := d + j) (by omega)
                                                have hpay : PayOK (wr.setCell ⟨w8.heap.size, (bb + (d + j)) % L2, none⟩ (.bool true)) (pos V3 t4 H LP k2 (d + j)) := ((HPP.out (d + j)).later hbel).set hrow (fun i _ y => by simp) _ _
                                                have bmlt : ¬ w8.heap.size = bm := by
                                                  have := World.block_lt_of_cell? w8 _ (cg1.at0 hsl)
                                                  simp at this; omega
                                                have bplt : ¬ w8.heap.size = bp := by
                                                  have := World.block_lt_of_cell? w8 _ (cg2.at0 hsl)
                                                  simp at this; omega
                                                have bllt : ¬ w8.heap.size = w7.heap.size := by
                                                  have := World.block_lt_of_cell? w8 _ (cL.at0 (i := 0) (by omega))
                                                  simp at this; omega
                                                have bqlt : ¬ w8.heap.size = w7.heap.size + 1 := by
                                                  have := World.block_lt_of_cell? w8 _ (cQ.at0 (i := 0) (by omega))
                                                  simp at this; omega
                                                have RR : Hid (_ ∧ _) := ⟨hrow2, hbel.setCell (p := ⟨w8.heap.size, (bb + (d + j)) % L2, none⟩) (Nat.le_refl _) (.bool true)⟩
                                                clear hrow hrow2 hbel hmj cg1 cg2 cL cQ cM8 cP8 hmk4
                                                generalize (bb + (d + j)) % L2 = s at *
                                                generalize pos M x H LP k2 (d + j) = xm at *
                                                generalize pos V3 t4 H LP k2 (d + j) = xp at *
                                                have b00 : (0 : Int) ≤ (s : Int) := by omega
                                                have b01 : (s : Int) < (L2 : Int) := by omega
                                                have b02 : IntKind.i64.wrap ((d : Int) + (j : Int)) = (d : Int) + (j : Int) := by rw [IntKind.wrap_i64]; omega
                                                have b03 : (d : Int) + (j : Int) < (k2 : Int) + 1 := by omega
                                                have b04 : ((d : Int) + (j : Int)).toNat = d + j := by omega
                                                go_wp2_with fail
                                                go_quiet ((go_at_call 16; exact Calls.quiet_of (same16 xp _ (hpay.later (below_drewN _ _ _)))))
                                                go_wp2_with fail
                                                go_roundw
                                                case rel => exact ⟨j + 1, by omega, by go_num, RR.out.1.of_block rfl, RR.out.2.trans (below_drewN _ _ _)⟩
                                                case measure => simp [intOf]; omega
                                              · obtain ⟨w9, hw9⟩ : ∃ w9, w9 = wr := ⟨_, rfl⟩
                                                subst hw9
                                                have hin0 : w9.rowIs w8.heap.size 4 L2 (fun s => .bool (decide (d ≤ idx bb L2 s ∧ idx bb L2 s ≤ k2))) := hrow.congr (fun s _ => by congr 1; exact decide_eq_decide.2 (by omega))
                                                have cN := Cells.of_row hin0
                                                have dg1 := cg1.later hbel
                                                have dg2 := cg2.later hbel
                                                have dM := cM8.later hbel
                                                have dP := cP8.later hbel
                                                have HP9 : Hid (∀ i, i < LP → PayOK w9 (V3 i)) := fun i hi => (HP8.out i hi).later hbel
                                                have hB10 := below_all hB9 hbel
                                                have q29 : ∀ (w : World) (a : Option Addr) (n c n' c' : Nat), (binOp .neq 29 (.slice a n c) (.slice none n' c')).run Try.prog w = .ok (.bool (!a.isNone)) w := fun w a n c n' c' => run_neq_slice_nil_any w _ _ a n c n' c' Try.underlying29
                                                clear hin0 hrow cg1 cg2 cM8 cP8 HP8 HPP hB9 hbel cL cQ hmk4 hj
                                                by_cases hful : k2 = LP
                                                · have t1 : decide (k2 = LP) = true := by simpa using hful
                                                  rw [t1]
                                                  clear t1
                                                  have HF : Hid (k2 = LP) := hful
                                                  clear hful
                                                  go_wp2_with fail
                                                  go_loopw [49, 50] (fun i _ wr => ∃ s q : Nat, s ≤ L2 ∧ i = .int .i64 s ∧ wr = w9.drewN q) (fun i _ _ => L2 - (intOf i).toNat)
                                                  case atStart => exact ⟨0, 0, Nat.zero_le _, rfl, rfl⟩
                                                  case round =>
                                                    obtain ⟨s, q, hs, rfl, rfl⟩ := hrel
                                                    by_cases hlts : s < L2
                                                    · have g0 := cN.at0 hlts
                                                      have g1 := dg1.at0 hlts
                                                      have g2 := dg2.at0 hlts
                                                      by_cases hin : d ≤ idx bb L2 s ∧ idx bb L2 s ≤ k2
                                                      · rw [decide_eq_true hin] at g0
                                                        clear g1 g2 cN dg1 dg2 dM dP
                                                        go_wp2_with fail
                                                        go_roundw
                                                        case rel => exact ⟨s + 1, _, by omega, by go_num, rfl⟩
                                                        case measure => simp [intOf]; omega
                                                      · rw [decide_eq_false hin] at g0
                                                        have p1 : ∀ {α : Type} (qq : Nat → α) (z : α), place qq (fun _ => z) z bb L2 k2 d s = z := by
                                                          intro α qq z
                                                          unfold place
                                                          split
                                                          · rfl
                                                          · rw [if_neg (by omega)]
                                                        rw [if_pos HF.out, p1] at g1 g2
                                                        have g2' : w9.cell? ⟨bp, s, none⟩ = some (.slice none 0 0) := g2
                                                        clear p1 g2 cN dg1 dg2 dM dP
                                                        go_wp2_with fail
                                                        go_roundw
                                                        case rel => exact ⟨s + 1, _, by omega, by go_num, rfl⟩
                                                        case measure => simp [intOf]; omega
                                                    · go_wp2_with fail
                                                      go_ret
                                                      exact ⟨rfl, hB10.trans (below_drewN _ _ _)⟩
                                                · have t1 : decide (k2 = LP) = false := by simpa using hful
                                                  rw [t1]
                                                  clear t1
                                                  have eL : LP = L2 := by rw [HL2.out.1, if_neg hful]
                                                  have eb : H = bb := by rw [HL2.out.2, if_neg hful]
                                                  subst eL
                                                  subst eb
                                                  obtain ⟨eh, hHl⟩ := HH.out (by omega)
                                                  subst eh
                                                  have HF : Hid (¬ k2 = LP) := hful
                                                  clear hful
                                                  have hmk5 := run_make_row' (P := Try.prog) 25 4 (.bool false) 1 Try.underlying25 info4 rfl .i64 .i64 LP (by omega) (by omega)
                                                  go_wp2_with fail
                                                  go_loopw [48] (fun i wr => ∃ k : Nat, k ≤ k2 + 1 ∧ i = .int .i64 k ∧ wr.rowIs w9.heap.size 4 LP (fun s => .bool (decide (idx H LP s < k))) ∧ Below w9.heap.size w9 wr) (fun i _ => k2 + 1 - (intOf i).toNat)
                                                  case atStart => exact ⟨0, Nat.zero_le _, rfl, (World.rowIs_made _ _ _ _).congr (fun s _ => congrArg Value.bool (decide_eq_false (p := idx H LP s < 0) (by omega)).symm), (Below.refl _ _).alloc (Nat.le_refl _) _⟩
                                                  case round =>
                                                    obtain ⟨k5, hk5, rfl, hrow, hbel⟩ := hrel
                                                    by_cases hlt5 : k5 < k2 + 1
                                                    · have hmk6 := mask2 LP H k5 (by omega) hpw2.out (by omega) (by omega)
                                                      have hsl : (H + k5) % LP < LP := Nat.mod_lt _ (by omega)
                                                      have g0 := hrow.cell hsl
                                                      have z0 := hrow.frozen ((H + k5) % LP)
                                                      have RR : Hid (_ ∧ _) := ⟨used_step hHl (show k5 < LP by omega) hrow, hbel.setCell (p := ⟨w9.heap.size, (H + k5) % LP, none⟩) (Nat.le_refl _) (.bool true)⟩
                                                      clear hrow hbel hmk5 cN dg1 dg2 dM dP
                                                      generalize (H + k5) % LP = s at *
                                                      have b00 : (0 : Int) ≤ (s : Int) := by omega
                                                      have b01 : (s : Int) < (LP : Int) := by omega
                                                      go_wp2_with fail
                                                      go_roundw
                                                      case rel => exact ⟨k5 + 1, by omega, by go_num, RR.out.1, RR.out.2⟩
                                                      case measure => simp [intOf]; omega
                                                    · obtain ⟨w10, hw10⟩ : ∃ w10, w10 = wr := ⟨_, rfl⟩
                                                      subst hw10
                                                      have hu0 : w10.rowIs w9.heap.size 4 LP (fun s => .bool (decide (idx H LP s ≤ k2))) := hrow.congr (fun s _ => by congr 1; exact decide_eq_decide.2 (by omega))
                                                      have cU := Cells.of_row hu0
                                                      have fN := cN.later hbel
                                                      have fg1 := dg1.later hbel
                                                      have fg2 := dg2.later hbel
                                                      have fM := dM.later hbel
                                                      have fP := dP.later hbel
                                                      have HP10 : Hid (∀ i, i < LP → PayOK w10 (V3 i)) := fun i hi => (HP9.out i hi).later hbel
                                                      obtain ⟨b1, o1, rfl, u1⟩ := fM (by omega)
                                                      obtain ⟨b2, o2, rfl, u2⟩ := fP (by omega)
                                                      have HU1 : Hid (∀ i, i < LP → w10.cell? ⟨b1, o1 + i, none⟩ = some (.int .i32 (M i))) := u1
                                                      have HU2 : Hid (∀ i, i < LP → w10.cell? ⟨b2, o2 + i, none⟩ = some (.slice (V3 i).1 (V3 i).2.1 (V3 i).2.2)) := u2
                                                      clear u1 u2 fM fP
                                                      have hB11 := below_all hB10 hbel
                                                      clear hu0 hrow hbel cN dg1 dg2 dM dP HP9 hB10 hmk5 hk5
                                                      go_wp2_with fail
                                                      go_loopw [49, 50] (fun i _ wr => ∃ s : Nat, s ≤ LP ∧ i = .int .i64 s ∧ Below w10.heap.size w10 wr) (fun i _ _ => LP - (intOf i).toNat)
                                                      case atStart => exact ⟨0, Nat.zero_le _, rfl, Below.refl _ _⟩
                                                      case round =>
                                                        obtain ⟨s, hs, rfl, hbl⟩ := hrel
                                                        have RB : Hid (Below w10.heap.size w10 wr) := hbl
                                                        by_cases hlts : s < LP
                                                        · have g0 := (fN.later hbl).at0 hlts
                                                          have g1 := (fg1.later hbl).at0 hlts
                                                          have g2 := (fg2.later hbl).at0 hlts
                                                          have g3 := (cU.later hbl).at0 hlts
                                                          by_cases hin : d ≤ idx H LP s ∧ idx H LP s ≤ k2
                                                          · rw [decide_eq_true hin] at g0
                                                            clear hbl g1 g2 g3 fN fg1 fg2 cU
                                                            go_wp2_with fail
                                                            go_roundw
                                                            case rel => exact ⟨s + 1, by omega, by go_num, by first | exact RB.out | exact RB.out.trans (below_drewN _ _ _)⟩
                                                            case measure => simp [intOf]; omega
                                                          · rw [decide_eq_false hin] at g0
                                                            by_cases hus : idx H LP s ≤ k2
                                                            · rw [decide_eq_true hus] at g3
                                                              have p1 : ∀ {α : Type} (qq orig : Nat → α) (z : α), place qq orig z H LP k2 d s = z := by
                                                                intro α qq orig z
                                                                unfold place
                                                                rw [if_pos (by omega)]
                                                              rw [p1] at g1 g2
                                                              have g2' : wr.cell? ⟨bp, s, none⟩ = some (.slice none 0 0) := g2
                                                              clear hbl p1 g2 fN fg1 fg2 cU
                                                              go_wp2_with fail
                                                              go_roundw
                                                              case rel => exact ⟨s + 1, by omega, by go_num, by first | exact RB.out | exact RB.out.trans (below_drewN _ _ _)⟩
                                                              case measure => simp [intOf]; omega
                                                            · rw [decide_eq_false hus] at g3
                                                              have p1 : ∀ {α : Type} (qq orig : Nat → α) (z : α), place qq orig z H LP k2 d s = orig s := by
                                                                intro α qq orig z
                                                                unfold place
                                                                rw [if_neg (by omega), if_neg (by omega)]
                                                              rw [p1, if_neg HF.out] at g1 g2
                                                              have v1 : wr.cell? ⟨b1, o1 + s, none⟩ = some (.int .i32 (M s)) := cell_later (HU1.out s hlts) hbl
                                                              have v2 : wr.cell? ⟨b2, o2 + s, none⟩ = some (.slice (V3 s).1 (V3 s).2.1 (V3 s).2.2) := cell_later (HU2.out s hlts) hbl
                                                              have g2' : wr.cell? ⟨bp, s, none⟩ = some (.slice (V3 s).1 (V3 s).2.1 (V3 s).2.2) := g2
                                                              have hpay := (HP10.out s hlts).later hbl
                                                              have b00 : (0 : Int) ≤ (s : Int) := by omega
                                                              have b01 : (s : Int) < (LP : Int) := by omega
                                                              clear hbl p1 g2 fN fg1 fg2 cU
                                                              go_wp2_with fail
                                                              go_quiet ((go_at_call 16; exact Calls.quiet_of (same16 (V3 s) _ (hpay.later (below_drewN _ _ _)))))
                                                              go_wp2_with fail
                                                              go_roundw
                                                              case rel => exact ⟨s + 1, by omega, by go_num, by first | exact RB.out | exact RB.out.trans (below_drewN _ _ _)⟩
                                                              case measure => simp [intOf]; omega
                                                        · go_wp2_with fail
                                                          go_ret
                                                          exact ⟨rfl, by first | exact below_all hB11 RB.out | exact below_all hB11 (RB.out.trans (below_drewN _ _ _))⟩
                              · skip
                                have t1 : (m != ((cnt (fun k => M ((H + k) % LP)) N : Nat) : Int)) = true := by rw [bne_iff_ne]; exact e7
                                go_wp2_with fail
                                go_ret
                                exact ⟨rfl, hB1⟩
                            · skip
                              go_wp2_with fail
                              all_goals
                                go_ret
                                exact ⟨rfl, hB1⟩
                          · skip
                            go_wp2_with fail
                            go_ret
                            exact ⟨rfl, hB1⟩
                      · skip
                        have tt : (h < 0) ∨ (¬ h < 0 ∧ (LP : Int) ≤ h) := by omega
                        have t0 : 0 < LP := by omega
                        clear e4
                        rcases tt with t1 | ⟨t1, t2⟩
                        all_goals
                          go_wp2_with fail
                          go_ret
                          exact ⟨rfl, hB1⟩
                    · skip
                      have tt : (n < 0) ∨ (¬ n < 0 ∧ (LP : Int) < n) := by omega
                      clear e3
                      rcases tt with t1 | ⟨t1, t2⟩
                      all_goals
                        go_wp2_with fail
                        go_ret
                        exact ⟨rfl, hB1⟩
                · skip
                  have t1 : ((LP : Int) != 0) = true := by rw [bne_iff_ne]; omega
                  have t2 : (bits .and .i64 (LP : Int) ((LP : Int) - 1) != 0) = true := by
                    rw [bne_iff_ne, show ((LP : Int) - 1) = ((LP - 1 : Nat) : Int) by omega, bits_and_nat LP (LP - 1) (by omega) (by omega)]
                    omega
                  go_wp2_with fail
                  go_ret
                  exact ⟨rfl, hB1⟩
              · skip
                have t1 : ((LP : Int) != (L : Int)) = true := by rw [bne_iff_ne]; omega
                go_wp2_with fail
                go_ret
                exact ⟨rfl, hB1⟩
        · skip
          go_wp2_with fail
          go_ret
          exact ⟨rfl, hB1⟩
    · skip
      go_wp2_with fail
      all_goals
        go_ret
        exact ⟨rfl, Below.refl _ _⟩

end Go.Proofs.Qxb6605552a
