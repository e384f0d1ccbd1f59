/-
  literal.
-/
import Derived.Test.Qxb6602019aScan
import Derived.Deep.CutBlock
namespace Go.Proofs.Qxb6602019a
open Go.RowKit

theorem delim_false {v : Int} (h : delim v = false) : (v == 44) = false ∧ (v == 93) = false ∧ (v == 125) = false ∧ sp v = false := by
  simp only [delim, Bool.or_eq_false_iff] at h
  exact ⟨h.1.1.1, h.1.1.2, h.1.2, h.2⟩

theorem delim_true {v : Int} (h : delim v = true) : (v == 44) = true ∨ ((v == 44) = false ∧ (v == 93) = true) ∨ ((v == 44) = false ∧ (v == 93) = false ∧ (v == 125) = true) ∨ ((v == 44) = false ∧ (v == 93) = false ∧ (v == 125) = false ∧ sp v = true) := by
  unfold delim at h
  cases h1 : v == 44 <;> cases h2 : v == 93 <;> cases h3 : v == 125 <;> simp_all

/-- The bytes of the text as a string. -/
def txt (F : Nat → Int) (m : Nat) : ByteArray := strOfNums ((List.range m).map F)

theorem convert_txt (a : Option Addr) (m c : Nat) (F : Nat → Int) (w : World) (hc : Cells w a m (fun i => .int .u8 (F i))) :
    (convert 22 9 (.slice a m c)).run Try.prog w = .ok (.string (txt F m)) w := by
  by_cases h : 0 < m
  · obtain ⟨b, off, rfl, hcc⟩ := hc h
    exact run_convert_bytes_arg w 22 5 Try.underlying22 Try.underlying5 b off m c _ (by simp) (fun i hi => by rw [hcc i hi]; simp [List.getD, hi]) 9 Try.underlying9
  · have h0 : m = 0 := by omega
    subst h0
    cases a with
    | none => exact run_convert_bytes_nil w 22 5 Try.underlying22 Try.underlying5 0 c 9 Try.underlying9
    | some x =>
      rw [run_convert_bytes_string w 22 9 5 _ 0 c Try.underlying22 Try.underlying5 Try.underlying9, run_bytesToString w x 0 c [] (by have := run_loadCells_list (P := Try.prog) w x [] (fun j v hj => by simp at hj); simpa using this)]
      rfl

def litOK (F : Nat → Int) (m : Nat) : Bool :=
  ((txt F m).toList == [116, 114, 117, 101]) || ((txt F m).toList == [102, 97, 108, 115, 101]) || ((txt F m).toList == [110, 117, 108, 108]) || numOK F m

set_option maxRecDepth 100000 in
set_option maxHeartbeats 4000000 in
theorem literal22 (b n c : Nat) (a : Option Addr) (x e : Nat) (d : Bool) (B : Nat → Int) (w0 w : World) (hb : w0.heap.size ≤ b) (hbel : Below w0.heap.size w0 w) (H : SC w b a n c x d)
    (hn : n ≤ 1048576) (hnc : n ≤ c) (hc : Cells w0 a n (fun i => .int .u8 (B i))) (hs : Stop delim B n x e) (x' : Nat) (d' : Bool)
    (hok : (litOK (sh B x) (e - x) = true ∧ x' = e ∧ d' = d) ∨ (litOK (sh B x) (e - x) = false ∧ x' = n ∧ d' = true)) :
    Calls Try.prog 22 #[.pointer (some ⟨b, 0, none⟩)] w fun en w' => en = .returned (.tuple #[]) ∧ SC w' b a n c x' d' ∧ Below w0.heap.size w0 w' := by
  obtain ⟨k1, k2, k3, k4⟩ := hs
  obtain ⟨c0, c1, c2⟩ := H.cells
  have R : Hid (SC w b a n c x d ∧ Below w0.heap.size w0 w) := ⟨H, hbel⟩
  have HC : Hid (Cells w0 a n (fun i => .int .u8 (B i))) := hc
  have HOK : Hid ((litOK (sh B x) (e - x) = true ∧ x' = e ∧ d' = d) ∨ (litOK (sh B x) (e - x) = false ∧ x' = n ∧ d' = true)) := hok
  clear H hbel hc hok
  go_enter Try.func22, Try.ntmps22
  go_upto_block 0 with fail
  go_cut [] (fun wx => SC wx b a n c e d ∧ Below w0.heap.size w0 wx)
  case first =>
    clear c0 c1 c2
    go_wp2_with fail
    go_loopg [] (e - x) (fun g wr => ∃ k : Nat, g + k = e ∧ x ≤ k ∧ SC wr b a n c k d ∧ Below w0.heap.size w0 wr)
    case atStart => exact ⟨x, by omega, Nat.le_refl _, R.out.1, R.out.2⟩
    case round =>
      obtain ⟨k, hg, hxk, hS, hbel⟩ := hrel
      obtain ⟨c0, c1, c2⟩ := hS.cells
      have z1 := hS.frozen 1
      have RR : Hid (SC wr b a n c k d ∧ Below w0.heap.size w0 wr) := ⟨hS, hbel⟩
      by_cases hkn : k < n
      · obtain ⟨b', off, rfl, hcc⟩ := HC.out (by omega)
        have g0 := hcc k hkn
        have nb := ne_of_cells hb g0
        have g1 : wr.cell? ⟨b', off + k, none⟩ = some (.int .u8 (B k)) := (hbel.cell (World.block_lt_of_cell? w0 _ g0)).trans g0
        have b00 : (0 : Int) ≤ (k : Int) := by omega
        have b01 : (k : Int) < (n : Int) := by omega
        by_cases hke : k < e
        · obtain ⟨d1, d2, d3, d4⟩ := delim_false (k3 k hxk hke)
          have D4 : Hid (sp (B k) = false) := d4
          clear hcc k3 k4 hS hbel g0 R d4 HOK
          go_wp2_with fail
          go_quiet (fail)
          go_wp2_with fail
          go_quiet (fail)
          go_wp2_with fail
          refine (isSpace26' _ false D4.out _).mono ?_
          rintro e' w' ⟨rfl, rfl⟩
          go_wp2_with fail
          go_roundg (gk - 1)
          case measure => omega
          case rel => exact ⟨k + 1, by omega, by omega, (RR.out.1.drewN _).set1 _, (RR.out.2.trans (below_drewN _ _ _)).setCell hb _⟩
        · have hke' : k = e := by omega
          have RE : Hid (SC wr b (some ⟨b', off, none⟩) n c e d) := by unfold Hid; rw [← hke']; exact hS
          have hd : delim (B k) = true := by
            rw [hke']
            rcases k4 with e' | e'
            · omega
            · exact e'
          have hd2 := delim_true hd
          clear hcc k3 k4 hS hbel g0 R hke' hd HOK
          rcases hd2 with d1 | ⟨d1, d2⟩ | ⟨d1, d2, d3⟩ | ⟨d1, d2, d3, d4⟩
          · go_wp2_with fail
            go_quiet (fail)
            go_wp2_with fail
            go_quiet (fail)
            go_wp2_with fail
            go_meet
            case rel => exact ⟨RE.out.drewN _, RR.out.2.trans (below_drewN _ _ _)⟩
          · go_wp2_with fail
            go_quiet (fail)
            go_wp2_with fail
            go_quiet (fail)
            go_wp2_with fail
            go_meet
            case rel => exact ⟨RE.out.drewN _, RR.out.2.trans (below_drewN _ _ _)⟩
          · go_wp2_with fail
            go_quiet (fail)
            go_wp2_with fail
            go_quiet (fail)
            go_wp2_with fail
            go_meet
            case rel => exact ⟨RE.out.drewN _, RR.out.2.trans (below_drewN _ _ _)⟩
          · have D4 : Hid (sp (B k) = true) := d4
            clear d4
            go_wp2_with fail
            go_quiet (fail)
            go_wp2_with fail
            go_quiet (fail)
            go_wp2_with fail
            refine (isSpace26' _ true D4.out _).mono ?_
            rintro e' w' ⟨rfl, rfl⟩
            go_wp2_with fail
            go_meet
            case rel => exact ⟨RE.out.drewN _, RR.out.2.trans (below_drewN _ _ _)⟩
      · have hke' : k = e := by omega
        have RE : Hid (SC wr b a n c e d) := by unfold Hid; rw [← hke']; exact hS
        clear k3 k4 hS hbel R hke' HOK
        go_wp2_with fail
        go_quiet (fail)
        go_wp2_with fail
        go_meet
        case rel => exact ⟨RE.out.drewN _, RR.out.2.trans (below_drewN _ _ _)⟩
  case rest =>
    obtain ⟨hS, hbel⟩ := hcut
    clear c0 c1 c2
    obtain ⟨c0, c1, c2⟩ := hS.cells
    obtain ⟨m, hm⟩ : ∃ m, m = e - x := ⟨_, rfl⟩
    obtain ⟨a', c', s1, s2, s3⟩ := cut_lh a n c x e m (by omega) k2 hnc
    have hc' : Cells w0 a' m (fun i => .int .u8 (sh B x i)) := s3 _ _ HC.out
    have hcv : ∀ q, (convert 22 9 (.slice a' m c')).run Try.prog (wc.drewN q) = .ok (.string (txt (sh B x) m)) (wc.drewN q) := fun q => convert_txt a' m c' _ _ (hc'.later (hbel.trans (below_drewN _ _ q)))
    have HC' : Hid (Cells w0 a' m (fun i => .int .u8 (sh B x i))) := hc'
    have RR : Hid (SC wc b a n c e d ∧ Below w0.heap.size w0 wc) := ⟨hS, hbel⟩
    have hok := HOK.out
    rw [← hm] at hok
    have HOK' : Hid ((litOK (sh B x) m = true ∧ x' = e ∧ d' = d) ∨ (litOK (sh B x) m = false ∧ x' = n ∧ d' = true)) := hok
    have hmm : m ≤ 1048576 := by omega
    have b00 : (0 : Int) ≤ (x : Int) := by omega
    have b01 : (x : Int) ≤ (e : Int) := by omega
    have b02 : (e : Int) ≤ (c : Int) := by omega
    clear s3 hc' hS hbel k3 k4 HC HOK hm hok R
    generalize sh B x = F at *
    cases t1 : ((txt F m).toList == [116, 114, 117, 101]) with
    | true =>
      have HE : Hid (x' = e ∧ d' = d) := by
        rcases HOK'.out with h | h
        · exact h.2
        · exact absurd h.1 (by simp [litOK, t1])
      clear HOK' HC'
      go_wp2_with fail
      go_quiet (fail)
      go_wp2_with fail
      go_end0
      exact ⟨rfl, by rw [HE.out.1, HE.out.2]; exact RR.out.1.drewN _, RR.out.2.trans (below_drewN _ _ _)⟩
    | false =>
      cases t2 : ((txt F m).toList == [102, 97, 108, 115, 101]) with
      | true =>
        have HE : Hid (x' = e ∧ d' = d) := by
          rcases HOK'.out with h | h
          · exact h.2
          · exact absurd h.1 (by simp [litOK, t2])
        clear HOK' HC'
        go_wp2_with fail
        go_quiet (fail)
        go_wp2_with fail
        go_end0
        exact ⟨rfl, by rw [HE.out.1, HE.out.2]; exact RR.out.1.drewN _, RR.out.2.trans (below_drewN _ _ _)⟩
      | false =>
        cases t3 : ((txt F m).toList == [110, 117, 108, 108]) with
        | true =>
          have HE : Hid (x' = e ∧ d' = d) := by
            rcases HOK'.out with h | h
            · exact h.2
            · exact absurd h.1 (by simp [litOK, t3])
          clear HOK' HC'
          go_wp2_with fail
          go_quiet (fail)
          go_wp2_with fail
          go_end0
          exact ⟨rfl, by rw [HE.out.1, HE.out.2]; exact RR.out.1.drewN _, RR.out.2.trans (below_drewN _ _ _)⟩
        | false =>
          have HE : Hid ((numOK F m = true ∧ x' = e ∧ d' = d) ∨ (numOK F m = false ∧ x' = n ∧ d' = true)) := by
            have hl : litOK F m = numOK F m := by simp [litOK, t1, t2, t3]
            rw [← hl]
            exact HOK'.out
          clear HOK'
          go_wp2_with fail
          go_quiet (fail)
          go_wp2_with fail
          refine (split27 a' m c' F _ hmm s2 (HC'.out.later (RR.out.2.trans (below_drewN _ _ _)))).mono ?_
          rintro e' w' ⟨⟨v, p1, p2, p3, rfl⟩, hb'⟩
          have R2 : Hid (SC w' b a n c e d ∧ Below w0.heap.size w0 w') := ⟨(RR.out.1.drewN _).later hb', below_all (RR.out.2.trans (below_drewN _ _ _)) hb'⟩
          clear hb' hcv s1 c0 c1 c2
          have HE2 := HE.out
          clear HE
          generalize numOK F m = nb at *
          rcases HE2 with ⟨h1, h2, h3⟩ | ⟨h1, h2, h3⟩
          · subst h1
            have HE : Hid (x' = e ∧ d' = d) := ⟨h2, h3⟩
            clear h2 h3
            go_wp2_with fail
            go_end0
            exact ⟨rfl, by rw [HE.out.1, HE.out.2]; exact R2.out.1, R2.out.2⟩
          · subst h1
            have HE : Hid (x' = n ∧ d' = true) := ⟨h2, h3⟩
            clear h2 h3
            go_wp2_with fail
            refine (fail28 b n c a e d w0 _ hb R2.out.2 R2.out.1).mono ?_
            rintro e'' w'' ⟨rfl, hS2, hb2⟩
            have R3 : Hid (SC w'' b a n c n true ∧ Below w0.heap.size w0 w'') := ⟨hS2, hb2⟩
            clear hS2 hb2
            go_wp2_with fail
            go_end0
            exact ⟨rfl, by rw [HE.out.1, HE.out.2]; exact R3.out.1, R3.out.2⟩

end Go.Proofs.Qxb6602019a
