/-
  (*history).keep.
-/
import Derived.Test.Qxb6605552aHist
import Derived.Test.Qxb6605552aRingPlain
import Derived.Deep.DeepCutAuto
namespace Go.Proofs.Qxb6605552a
open Go.RowKit

theorem make_grow (L G : Nat) (hL : L ≤ 65536) (hG : G = grow L) (z : Int) (hz : z = (G : Int)) (w : World) :
    (Instr.makeSlice 42 (.int .i64 z) (.int .i64 z)).run Try.prog w = .ok (.slice (some ⟨w.heap.size, 0, none⟩) G G) (w.alloc (.cells (madeCells #[.slice none 0 0, .int .i32 0] (G * 2)) 44)) := by
  have := grow_le L hL
  subst hz
  exact run_make_ring G (by omega) w

/-- What lies in memory behind 'keep': d positions have been let go. -/
def Kept (w w' : World) (e : Ending) (bs br L R : Nat) (f : Int) (h n : Nat) (M : Nat → Int) (P : Nat → Pay) (x : Int) (t : Pay) (L2 b : Nat) : Prop :=
  e = .returned (.tuple #[]) ∧ ∃ bx d : Nat, HS w' bs R (fst f d) bx L2 ((b + d) % L2 : Nat) (n + 1 - d : Nat) (cnt (pos M x h L n) (n + 1) - cnt (pos M x h L n) d : Nat) ∧
    Ring w' bx L2 (place (pos M x h L n) (if n = L then fun _ => 0 else M) 0 b L2 n d) (place (pos P t h L n) (if n = L then fun _ => nilPay else P) nilPay b L2 n d) ∧
    Wrote bs br w w' ∧ d ≤ n + 1 ∧ (∀ i, i < d → R < cnt (pos M x h L n) (n + 1) - cnt (pos M x h L n) i) ∧ ¬ R < cnt (pos M x h L n) (n + 1) - cnt (pos M x h L n) d

theorem at21z (bs br L : Nat) (r f n m : Int) (h : Nat) (w : World) (hL : h < L) (hl : L ≤ 500000) (hp : ∃ k, L = 2 ^ k) (H : HS w bs r f br L h n m) :
    Calls Try.prog 21 #[.pointer (some ⟨bs, 0, none⟩), .int .i64 0] w fun e w' => e = .returned (.pointer (some ⟨br, h * 2, none⟩)) ∧ ∃ q, w' = w.drewN q := by
  have := at21 bs br L r f n m h 0 w (by omega) hl hp (by omega) H
  rw [Nat.add_zero, Nat.mod_eq_of_lt hL] at this
  exact this

set_option maxRecDepth 100000 in
set_option maxHeartbeats 4000000 in
theorem keep19 (bs br L : Nat) (R : Nat) (f : Int) (hi : Int) (h n m : Nat) (M : Nat → Int) (P : Nat → Pay) (x : Int) (t : Pay) (w : World)
    (hL : L ≤ 65536) (hp : L = 0 ∨ ∃ k, L = 2 ^ k) (hn : n ≤ L) (hhi : 0 < L → hi = (h : Int)) (hh : 0 < L → h < L) (hx1 : -2147483648 ≤ x) (hx2 : x ≤ 2147483647) (hf0 : 0 ≤ f) (hf1 : f < 18446744073709551616)
    (hm : m = cnt (pos M x h L n) n) (H : HS w bs R f br L hi n m) (hR : Ring w br L M P) (hne : br ≠ bs)
    (L2 b : Nat) (hL2 : L2 = if n = L then grow L else L) (hb : b = if n = L then 0 else h) :
    Calls Try.prog 19 #[.pointer (some ⟨bs, 0, none⟩), .int .i64 x, .slice t.1 t.2.1 t.2.2] w fun e w' => Kept w w' e bs br L R f h n M P x t L2 b := by
  obtain ⟨c0, c1, c2, c3, c4, c5⟩ := H.cells
  have hlt := H.lt
  have hltr := hR.lt
  have X : Hid ((L = 0 ∨ ∃ k, L = 2 ^ k) ∧ m = cnt (pos M x h L n) n ∧ (L2 = if n = L then grow L else L) ∧ (b = if n = L then 0 else h) ∧ (0 < L → h < L)) := ⟨hp, hm, hL2, hb, hh⟩
  have Y : Hid (HS w bs R f br L hi n m ∧ Ring w br L M P) := ⟨H, hR⟩
  have HHI : Hid (0 < L → hi = (h : Int)) := hhi
  have nn : ¬ br = bs := hne
  have nn' : ¬ bs = br := fun e => hne e.symm
  have n1 : ¬ w.heap.size = bs := by omega
  have n2 : ¬ w.heap.size = br := by omega
  clear hp hm hL2 hb hh H hR hne hhi
  go_enter Try.func19, Try.ntmps19
  go_wp2
  go_quiet (fail)
  go_upto_if 18 with (fail)
  go_cut [] (fun w' => ∃ bx, HS w' bs R f bx L2 b n m ∧ Ring w' bx L2 (place0 (pos M x h L n) (if n = L then fun _ => 0 else M) b L2 n) (place0 (pos P t h L n) (if n = L then fun _ => nilPay else P) b L2 n) ∧
    Wrote bs br w w' ∧ bx ≠ bs ∧ (bx = br ∨ w.heap.size ≤ bx))
  case first =>
    by_cases hful : n = L
    · have ht : ((n : Int) == (L : Int)) = true := by rw [beq_iff_eq]; omega
      rw [ht]
      clear ht
      obtain ⟨G, hG⟩ : ∃ G, G = grow L := ⟨_, rfl⟩
      have hgt := grow_gt L
      have hgl := grow_le L hL
      rw [← hG] at hgt hgl
      have e2 : Hid (L2 = G ∧ b = 0) := ⟨by rw [X.out.2.2.1, if_pos hful, hG], by rw [X.out.2.2.2.1, if_pos hful]⟩
      have HF : Hid (n = L) := hful
      have hln : L ≤ n := by omega
      clear hful
      have hcase : (64 < 2 * (L : Int) ∧ ∀ w, (Instr.makeSlice 42 (.int .i64 (2 * (L : Int))) (.int .i64 (2 * (L : Int)))).run Try.prog w = .ok (.slice (some ⟨w.heap.size, 0, none⟩) G G) (w.alloc (.cells (madeCells #[.slice none 0 0, .int .i32 0] (G * 2)) 44))) ∨
          (¬ 64 < 2 * (L : Int) ∧ ∀ w, (Instr.makeSlice 42 (.int .i64 64) (.int .i64 64)).run Try.prog w = .ok (.slice (some ⟨w.heap.size, 0, none⟩) G G) (w.alloc (.cells (madeCells #[.slice none 0 0, .int .i32 0] (G * 2)) 44))) := by
        by_cases e : 64 < 2 * L
        · exact .inl ⟨by omega, make_grow L G hL hG _ (by rw [hG, grow, if_pos e]; omega)⟩
        · exact .inr ⟨by omega, make_grow L G hL hG _ (by rw [hG, grow, if_neg e]; rfl)⟩
      clear hG
      rcases hcase with ⟨h64, hmk⟩ | ⟨h64, hmk⟩
      all_goals
        generalize hw0 : w.drewN _ = w0
        have hb0 : Below w.heap.size w w0 := by rw [← hw0]; exact below_drewN _ _ _
        have hs0 : Hid (w0.heap.size = w.heap.size) := by unfold Hid; rw [← hw0]; rfl
        clear hw0
        have H0 : HS w0 bs R f br L hi n m := Y.out.1.of_block (hb0.block _ hlt)
        obtain ⟨d0, d1, d2, d3, d4, d5⟩ := H0.cells
        have hlt0 : bs < w0.heap.size := H0.lt
        clear c0 c1 c2 c3 c4 c5 H0 n1 n2
        go_wp2
        go_loopw [31] (fun i wr => ∃ k : Nat, k ≤ n ∧ i = .int .i64 k ∧ Ring wr w0.heap.size G (fun s => if s < k then pos M x h L n s else 0) (fun s => if s < k then pos P t h L n s else nilPay) ∧ Below w.heap.size w wr ∧ w.heap.size ≤ w0.heap.size) (fun i _ => n - (intOf i).toNat)
        case atStart => exact ⟨0, Nat.zero_le _, rfl, (made_ring G w0).congr (fun s _ => by simp) (fun s _ => by simp), hb0.alloc hb0.size _, hb0.size⟩
        case round =>
          obtain ⟨k, hk, rfl, hring, hbel, hsz⟩ := hrel
          have hH : HS wr bs R f br L hi n m := Y.out.1.of_block (hbel.block _ hlt)
          have hRg : Ring wr br L M P := Y.out.2.of_block (hbel.block _ hltr)
          obtain ⟨a0, a1, a2, a3, a4, a5⟩ := hH.cells
          clear d0 d1 d2 d3 d4 d5
          have n1 : ¬ w0.heap.size = bs := by omega
          have n2 : ¬ w0.heap.size = br := by omega
          by_cases hkn : k < n
          · have hpow : ∃ k, L = 2 ^ k := by
              rcases X.out.1 with e | e
              · omega
              · exact e
            have hhl := X.out.2.2.2.2 (by omega)
            have hH' : HS wr bs R f br L h n m := by have q := hH; rw [HHI.out (by omega)] at q; exact q
            go_wp2_with fail
            refine (at21 bs br L R f n m h k _ (by omega) (by omega) hpow (by omega) hH').mono ?_
            rintro e w1 ⟨rfl, q, rfl⟩
            have hlt2 : (h + k) % L < L := Nat.mod_lt _ (by omega)
            have p0 := hRg.pay hlt2
            have p1 := hRg.mem hlt2
            have q0 := hring.pay (i := k) (by omega)
            have q1 := hring.mem (i := k) (by omega)
            have z0 := hring.frozen (k * 2)
            have z1 := hring.frozen (k * 2 + 1)
            have b00 : (0 : Int) ≤ (k : Int) := by omega
            have b01 : (k : Int) < (G : Int) := by omega
            have R1 := Ring.set_step (hring.drewN q)
            have e1 : pos M x h L n k = M ((h + k) % L) := by simp [pos, hkn]
            have e3 : pos P t h L n k = P ((h + k) % L) := by simp [pos, hkn]
            rw [e1, e3] at R1
            have RR : Hid (_ ∧ _) := ⟨R1, hbel.trans (below_drewN _ _ q)⟩
            clear R1 e1 e3 hring hbel hH hH' hRg hmk hpow
            generalize (h + k) % L = s at *
            go_wp2
            go_roundw
            case rel =>
              have RB := (RR.out.2.setCell (p := ⟨w0.heap.size, k * 2, none⟩) hsz (pv (P s))).setCell (p := ⟨w0.heap.size, k * 2 + 1, none⟩) hsz (.int .i32 (M s))
              exact ⟨k + 1, by omega, by go_num, RR.out.1, RB, hsz⟩
            case measure => simp [intOf]; omega
          · have hkk : Hid (k = n) := by unfold Hid; omega
            have z2 := hH.frozen 2
            have z3 := hH.frozen 3
            have RR : Hid (HS wr bs R f br L hi n m ∧ Ring wr w0.heap.size G (fun s => if s < k then pos M x h L n s else 0) (fun s => if s < k then pos P t h L n s else nilPay) ∧ Below w.heap.size w wr) := ⟨hH, hring, hbel⟩
            clear hring hbel hH hRg hmk
            go_wp2_with fail
            go_meet
            case rel =>
              obtain ⟨hH, hring, hbel⟩ := RR.out
              have ek := hkk.out
              subst ek
              refine ⟨w0.heap.size, ?_, ?_, ?_, n1, .inr hsz⟩
              · rw [e2.out.1, e2.out.2]; exact (hH.set2 w0.heap.size G).set3 0
              · rw [e2.out.1, e2.out.2, if_pos HF.out, if_pos HF.out]
                exact ((hring.congr (fun s hs => place0_grown _ _ G k s hs) (fun s hs => place0_grown _ _ G k s hs)).other (by exact n1) _).other (by exact n1) _
              · exact ((Wrote.of_below hbel).setCell (p := ⟨bs, 2, none⟩) (.inl rfl) _).setCell (p := ⟨bs, 3, none⟩) (.inl rfl) _
    · have ht : ((n : Int) == (L : Int)) = false := by rw [beq_eq_false_iff_ne]; omega
      have e2 : Hid (L2 = L ∧ b = h) := ⟨by rw [X.out.2.2.1, if_neg hful], by rw [X.out.2.2.2.1, if_neg hful]⟩
      go_wp2_with fail
      go_meet
      case rel =>
        refine ⟨br, ?_, ?_, (Wrote.refl _ _ _).drewN _, nn, .inl rfl⟩
        · rw [e2.out.1, e2.out.2, ← HHI.out (by omega)]; exact Y.out.1.drewN _
        · rw [e2.out.1, e2.out.2, if_neg hful, if_neg hful]
          have hh := X.out.2.2.2.2 (by omega)
          exact (Y.out.2.congr (fun s hs => place0_room M x h L n s hh hs) (fun s hs => place0_room P t h L n s hh hs)).drewN _
  case rest =>
    obtain ⟨bx, H1, R1, W1, hne1, hbx⟩ := hcut
    clear c0 c1 c2 c3 c4 c5 n1 n2
    have hnL : n < L2 := by
      rw [X.out.2.2.1]
      split
      · have := grow_gt L; omega
      · omega
    have hL2 : L2 ≤ 131072 := by
      rw [X.out.2.2.1]
      split
      · exact grow_le L hL
      · omega
    have hbL : b < L2 := by
      rw [X.out.2.2.1, X.out.2.2.2.1]
      split
      · have := grow_gt L; omega
      · exact X.out.2.2.2.2 (by omega)
    have hpow : Hid (∃ k, L2 = 2 ^ k) := by
      unfold Hid
      rw [X.out.2.2.1]
      split
      · exact grow_pow L X.out.1
      · rcases X.out.1 with e | e
        · omega
        · exact e
    obtain ⟨tot, htot⟩ : ∃ tot, tot = cnt (pos M x h L n) (n + 1) := ⟨_, rfl⟩
    have hcl := cnt_le (pos M x h L n) (n + 1)
    have HT : Hid (tot = cnt (pos M x h L n) (n + 1) ∧ tot = m + (if 0 ≤ x then 1 else 0)) := ⟨htot, by rw [htot, X.out.2.1, cnt]; simp [pos]⟩
    rw [← htot] at hcl
    clear htot
    have hml : m ≤ n := by rw [X.out.2.1]; exact cnt_le _ _
    obtain ⟨a0, a1, a2, a3, a4, a5⟩ := H1.cells
    have z5 := H1.frozen 5
    have nx : ¬ bx = bs := hne1
    have nx' : ¬ bs = bx := fun e => hne1 e.symm
    have Y1 : Hid (HS wc bs R f bx L2 b n m ∧ Ring wc bx L2 (place0 (pos M x h L n) (if n = L then fun _ => 0 else M) b L2 n) (place0 (pos P t h L n) (if n = L then fun _ => nilPay else P) b L2 n) ∧ Wrote bs br w wc ∧ (bx = br ∨ w.heap.size ≤ bx)) := ⟨H1, R1, W1, hbx⟩
    clear H1 R1 W1 hne1 hbx
    go_upto_if 51 with (fail)
    go_cut [] (fun w' => HS w' bs R f bx L2 b n tot ∧ Ring w' bx L2 (place0 (pos M x h L n) (if n = L then fun _ => 0 else M) b L2 n) (place0 (pos P t h L n) (if n = L then fun _ => nilPay else P) b L2 n) ∧ Wrote bs br w w')
    case first =>
      by_cases hx0 : 0 ≤ x
      · go_wp2_with fail
        go_meet
        case rel =>
          have e : (tot : Int) = (m : Int) + 1 := by have := HT.out.2; rw [if_pos (by omega)] at this; omega
          rw [e]
          exact ⟨Y1.out.1.set5 _, Y1.out.2.1.other (by exact nx) _, Y1.out.2.2.1.setCell (p := ⟨bs, 5, none⟩) (.inl rfl) _⟩
      · go_wp2_with fail
        go_meet
        case rel =>
          have e : tot = m := by have := HT.out.2; rw [if_neg (by omega)] at this; omega
          rw [e]
          exact ⟨Y1.out.1, Y1.out.2.1, Y1.out.2.2.1⟩
    case rest =>
      clear a0 a1 a2 a3 a4 a5 z5
      obtain ⟨H2, R2, W2⟩ := hcut
      have hbx : Hid (bx = br ∨ w.heap.size ≤ bx) := Y1.out.2.2.2
      clear Y1
      obtain ⟨a0, a1, a2, a3, a4, a5⟩ := H2.cells
      have z4 := H2.frozen 4
      have hmod : (b + n) % L2 < L2 := Nat.mod_lt _ (by omega)
      have q0 := R2.pay hmod
      have q1 := R2.mem hmod
      have y0 := R2.frozen ((b + n) % L2 * 2)
      have y1 := R2.frozen ((b + n) % L2 * 2 + 1)
      go_wp2_with fail
      refine (at21 bs bx L2 R f n tot b n _ (by omega) (by omega) hpow.out (by omega) H2).mono ?_
      rintro e w1 ⟨rfl, q, rfl⟩
      have R3 := (R2.drewN q).set ((b + n) % L2) t x
      have R4 : Hid (Ring _ bx L2 (place (pos M x h L n) (if n = L then fun _ => 0 else M) 0 b L2 n 0) (place (pos P t h L n) (if n = L then fun _ => nilPay else P) nilPay b L2 n 0)) :=
        R3.congr (fun s hs => by rw [← place_new _ _ 0 b L2 n s hbL hnL hs]; simp [pos]) (fun s hs => by rw [← place_new _ _ nilPay b L2 n s hbL hnL hs]; simp [pos])
      have H4 : Hid (HS _ bs R f bx L2 b n tot) := ((H2.drewN q).other (a := ⟨bx, (b + n) % L2 * 2, none⟩) (by exact nx') (pv t)).other (a := ⟨bx, (b + n) % L2 * 2 + 1, none⟩) (by exact nx') (.int .i32 x)
      have W4 : Hid (Wrote bs br w _) := ((W2.drewN q).setCell (p := ⟨bx, (b + n) % L2 * 2, none⟩) (by have := hbx.out; simp only; omega) (pv t)).setCell (p := ⟨bx, (b + n) % L2 * 2 + 1, none⟩) (by have := hbx.out; simp only; omega) (.int .i32 x)
      clear R3 H2 R2 W2
      generalize (b + n) % L2 = s0 at *
      go_wp2_with fail
      go_loopg [] (n + 1) (fun g wr => ∃ j : Nat, g + j = n + 1 ∧ HS wr bs R (fst f j) bx L2 ((b + j) % L2 : Nat) (n + 1 - j : Nat) (tot - cnt (pos M x h L n) j : Nat) ∧
        Ring wr bx L2 (place (pos M x h L n) (if n = L then fun _ => 0 else M) 0 b L2 n j) (place (pos P t h L n) (if n = L then fun _ => nilPay else P) nilPay b L2 n j) ∧ Wrote bs br w wr ∧ (∀ i, i < j → R < tot - cnt (pos M x h L n) i))
      case atStart =>
        refine ⟨0, rfl, ?_, (R4.out.other (by exact nx) _), (W4.out.setCell (p := ⟨bs, 4, none⟩) (.inl rfl) _), fun i hi => absurd hi (by omega)⟩
        have := H4.out.set4 ((n : Int) + 1)
        have e1 : (b + 0) % L2 = b := by rw [Nat.add_zero, Nat.mod_eq_of_lt hbL]
        rw [fst_zero f hf0 hf1, e1]
        exact this
      case round =>
        obtain ⟨j, hg, H5, R5, W5, hgo⟩ := hrel
        obtain ⟨g0, g1, g2, g3, g4, g5⟩ := H5.cells
        clear a0 a1 a2 a3 a4 a5 z4 q0 q1 y0 y1 H4 R4 W4
        have hmodj : (b + j) % L2 < L2 := Nat.mod_lt _ (by omega)
        have hcj := cnt_mono (pos M x h L n) j (n + 1) (by omega)
        rw [← HT.out.1] at hcj
        by_cases hRj : R < tot - cnt (pos M x h L n) j
        · have hjn : j ≤ n := by
            by_cases e : j = n + 1
            · subst e; rw [← HT.out.1] at hRj; omega
            · omega
          have hgo' : Hid (∀ i, i < j + 1 → R < tot - cnt (pos M x h L n) i) := fun i hi => if e : i = j then e ▸ hRj else hgo i (by omega)
          have hcs : Hid (cnt (pos M x h L n) (j + 1) = cnt (pos M x h L n) j + (if 0 ≤ pos M x h L n j then 1 else 0)) := rfl
          have hcj1 := cnt_mono (pos M x h L n) (j + 1) (n + 1) (by omega)
          rw [← HT.out.1] at hcj1
          have em : place (pos M x h L n) (if n = L then fun _ => 0 else M) 0 b L2 n j ((b + j) % L2) = pos M x h L n j := place_at _ _ _ b L2 n j j hbL (by omega) (Nat.le_refl _) hjn
          have p0 := R5.pay hmodj
          have p1 := R5.mem hmodj
          rw [em] at p1
          have hn1 : (b + (j + 1)) % L2 = ((b + j) % L2 + 1) % L2 := by rw [← Nat.add_assoc, Nat.add_mod (b + j) 1 L2, Nat.add_mod ((b + j) % L2) 1 L2, Nat.mod_mod]
          have hmk := mask2 L2 ((b + j) % L2) 1 (by omega) hpow.out (by omega) (by omega)
          rw [← hn1] at hmk
          have HN : Hid ((b + (j + 1)) % L2 < L2) := Nat.mod_lt _ (by omega)
          have R6 : Hid (∀ W, Ring W bx L2 (place (pos M x h L n) (if n = L then fun _ => 0 else M) 0 b L2 n j) (place (pos P t h L n) (if n = L then fun _ => nilPay else P) nilPay b L2 n j) → Ring ((W.setCell ⟨bx, (b + j) % L2 * 2, none⟩ (pv nilPay)).setCell ⟨bx, (b + j) % L2 * 2 + 1, none⟩ (.int .i32 0)) bx L2 (place (pos M x h L n) (if n = L then fun _ => 0 else M) 0 b L2 n (j + 1)) (place (pos P t h L n) (if n = L then fun _ => nilPay else P) nilPay b L2 n (j + 1))) :=
            fun W hW => (hW.set ((b + j) % L2) nilPay 0).congr (fun s hs => place_step _ _ _ b L2 n j s hbL (by omega) hs) (fun s hs => place_step _ _ _ b L2 n j s hbL (by omega) hs)
          have HC : Hid (HS wr bs R (fst f j) bx L2 ((b + j) % L2 : Nat) (n + 1 - j : Nat) (tot - cnt (pos M x h L n) j : Nat) ∧ Ring wr bx L2 (place (pos M x h L n) (if n = L then fun _ => 0 else M) 0 b L2 n j) (place (pos P t h L n) (if n = L then fun _ => nilPay else P) nilPay b L2 n j) ∧ Wrote bs br w wr) := ⟨H5, R5, W5⟩
          have l1 : (R : Int) < ((tot - cnt (pos M x h L n) j : Nat) : Int) := by omega
          clear em hn1 R5 W5 hgo hRj
          generalize hsj : (b + j) % L2 = sj at *
          generalize hsk : (b + (j + 1)) % L2 = sk at *
          have hS : Hid ((b + j) % L2 = sj ∧ (b + (j + 1)) % L2 = sk) := ⟨hsj, hsk⟩
          clear hsj hsk
          go_wp2
          go_quiet (fail)
          go_wp2_with fail
          refine (at21z bs bx L2 R _ _ _ sj _ hmodj (by omega) hpow.out (H5.drewN _)).mono ?_
          rintro e w1 ⟨rfl, q, rfl⟩
          clear H5
          go_upto_if 92 with (fail)
          have zz := HC.out.1.frozen 5
          go_cut [] (fun w' => HS w' bs R (fst f j) bx L2 sj (n + 1 - j : Nat) (tot - cnt (pos M x h L n) (j + 1) : Nat) ∧ Ring w' bx L2 (place (pos M x h L n) (if n = L then fun _ => 0 else M) 0 b L2 n j) (place (pos P t h L n) (if n = L then fun _ => nilPay else P) nilPay b L2 n j) ∧ Wrote bs br w w')
          case first =>
            by_cases h0 : 0 ≤ pos M x h L n j
            · have e : ((tot - cnt (pos M x h L n) (j + 1) : Nat) : Int) = ((tot - cnt (pos M x h L n) j : Nat) : Int) - 1 := by
                have := hcs.out; rw [if_pos h0] at this; omega
              have HE : Hid _ := e
              clear e
              go_wp2_with fail
              go_meet
              case rel =>
                rw [HE.out]
                exact ⟨((HC.out.1.drewN _).set5 _), (HC.out.2.1.drewN _).other (by exact nx) _, (HC.out.2.2.drewN _).setCell (p := ⟨bs, 5, none⟩) (.inl rfl) _⟩
            · have e : (tot - cnt (pos M x h L n) (j + 1)) = (tot - cnt (pos M x h L n) j) := by
                have := hcs.out; rw [if_neg h0] at this; omega
              have HE : Hid _ := e
              clear e
              go_wp2_with fail
              go_meet
              case rel =>
                rw [HE.out]
                exact ⟨HC.out.1.drewN _, HC.out.2.1.drewN _, HC.out.2.2.drewN _⟩
          case rest =>
            obtain ⟨H7, R7, W7⟩ := hcut
            clear HC g0 g1 g2 g3 g4 g5 p0 p1 zz
            obtain ⟨k0, k1, k2, k3, k4, k5⟩ := H7.cells
            have y1 := H7.frozen 1
            have y3 := H7.frozen 3
            have y4 := H7.frozen 4
            have r0 := R7.pay hmodj
            have r1 := R7.mem hmodj
            have r2 := R7.frozen (sj * 2)
            have r3 := R7.frozen (sj * 2 + 1)
            have hmk' : bits .and .i64 ((sj : Int) + 1) ((L2 : Int) - 1) = (sk : Int) := hmk
            have b02 : IntKind.i64.wrap ((sj : Int) + 1) = (sj : Int) + 1 := by rw [IntKind.wrap_i64]; omega
            have b03 : IntKind.i64.wrap ((L2 : Int) - 1) = (L2 : Int) - 1 := by rw [IntKind.wrap_i64]; omega
            have hfs := fst_succ f j
            have HH : Hid (HS wc bs R (fst f j) bx L2 sj (n + 1 - j : Nat) (tot - cnt (pos M x h L n) (j + 1) : Nat) ∧ Ring wc bx L2 (place (pos M x h L n) (if n = L then fun _ => 0 else M) 0 b L2 n j) (place (pos P t h L n) (if n = L then fun _ => nilPay else P) nilPay b L2 n j) ∧ Wrote bs br w wc) := ⟨H7, R7, W7⟩
            clear H7 R7 W7 hmk
            go_wp2
            go_region
            go_wp2
            go_roundg (n - j)
            case measure => omega
            case rel =>
              obtain ⟨H7, R7, W7⟩ := HH.out
              refine ⟨j + 1, by omega, ?_, ?_, ?_, hgo'.out⟩
              · rw [hS.out.2, show ((n + 1 - (j + 1) : Nat) : Int) = ((n + 1 - j : Nat) : Int) - 1 by omega]
                exact (((((H7.other (a := ⟨bx, sj * 2, none⟩) (by exact nx') (.slice none 0 0)).other (a := ⟨bx, sj * 2 + 1, none⟩) (by exact nx') (.int .i32 0)).set3 sk).set4 _).set1 _).drew
              · exact ((((R6.out wc R7).other (a := ⟨bs, 3, none⟩) (by exact nx) _).other (a := ⟨bs, 4, none⟩) (by exact nx) _).other (a := ⟨bs, 1, none⟩) (by exact nx) _).drew
              · exact (((((W7.setCell (p := ⟨bx, sj * 2, none⟩) (by have := hbx.out; simp only; omega) _).setCell (p := ⟨bx, sj * 2 + 1, none⟩) (by have := hbx.out; simp only; omega) _).setCell (p := ⟨bs, 3, none⟩) (.inl rfl) _).setCell (p := ⟨bs, 4, none⟩) (.inl rfl) _).setCell (p := ⟨bs, 1, none⟩) (.inl rfl) _).drew
        · have l1 : ¬ (R : Int) < ((tot - cnt (pos M x h L n) j : Nat) : Int) := by omega
          have FF : Hid (HS wr bs R (fst f j) bx L2 ((b + j) % L2 : Nat) (n + 1 - j : Nat) (tot - cnt (pos M x h L n) j : Nat) ∧ Ring wr bx L2 (place (pos M x h L n) (if n = L then fun _ => 0 else M) 0 b L2 n j) (place (pos P t h L n) (if n = L then fun _ => nilPay else P) nilPay b L2 n j) ∧ Wrote bs br w wr ∧ (∀ i, i < j → R < tot - cnt (pos M x h L n) i) ∧ ¬ R < tot - cnt (pos M x h L n) j ∧ j ≤ n + 1) := ⟨H5, R5, W5, hgo, hRj, by omega⟩
          clear H5 R5 W5 hgo hRj
          go_wp2
          go_quiet (fail)
          go_wp2
          go_end0
          obtain ⟨f1, f2, f3, f4, f5, f6⟩ := FF.out
          rw [HT.out.1] at f1 f4 f5
          exact ⟨rfl, bx, j, f1.drewN _, f2.drewN _, f3.drewN _, f6, f4, f5⟩

theorem keep13 (bs br L : Nat) (R : Nat) (f : Int) (hi : Int) (h n m : Nat) (M : Nat → Int) (P : Nat → Pay) (x : Int) (t : Pay) (w : World)
    (hL : L ≤ 65536) (hp : L = 0 ∨ ∃ k, L = 2 ^ k) (hn : n ≤ L) (hhi : 0 < L → hi = (h : Int)) (hh : 0 < L → h < L) (hx1 : -2147483648 ≤ x) (hx2 : x ≤ 2147483647) (hf0 : 0 ≤ f) (hf1 : f < 18446744073709551616)
    (hm : m = cnt (pos M x h L n) n) (H : HS w bs R f br L hi n m) (hR : Ring w br L M P) (hne : br ≠ bs)
    (L2 b : Nat) (hL2 : L2 = if n = L then grow L else L) (hb : b = if n = L then 0 else h) :
    Calls Try.prog 13 #[.pointer (some ⟨bs, 0, none⟩), .int .i64 x, .slice t.1 t.2.1 t.2.2] w fun e w' => Kept w w' e bs br L R f h n M P x t L2 b := by
  go_enter Try.func13, Try.ntmps13
  go_wp2_with fail
  refine (keep19 bs br L R f hi h n m M P x t w hL hp hn hhi hh hx1 hx2 hf0 hf1 hm H hR hne L2 b hL2 hb).mono ?_
  rintro e w' ⟨rfl, hk⟩
  have HH : Hid (Kept w w' (.returned (.tuple #[])) bs br L R f h n M P x t L2 b) := ⟨rfl, hk⟩
  clear hk hL2 hb hm H hR hne hh hp hhi
  go_wp2
  go_end0
  exact HH.out

end Go.Proofs.Qxb6605552a
