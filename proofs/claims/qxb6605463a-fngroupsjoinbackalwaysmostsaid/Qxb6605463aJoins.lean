/-
  joinsBack: pieces between rising cuts, joined, give the text back.
-/
import Derived.Test.Qxb6605463aSame
import Derived.Lib.AppendStr
import Derived.Lib.SmallJoins
namespace Go.Proofs.Qxb6605463a
open Go.RowKit

theorem size_piece (d : ByteArray) (a b : Nat) (hb : b ≤ d.size) : (d.extract a b).size = b - a := by
  simp [ByteArray.size_extract]; omega

theorem strCells_join (d : ByteArray) (a b : Nat) (h : a ≤ b) : Lib.strCells (d.extract 0 a) ++ Lib.strCells (d.extract a b) = Lib.strCells (d.extract 0 b) := by
  unfold Lib.strCells
  rw [← List.map_append, Lib.extract_data, Lib.extract_data, Lib.extract_data]
  congr 1
  simp only [List.drop_zero, Nat.sub_zero]
  rw [show List.take b d.data.toList = List.take (a + (b - a)) d.data.toList by rw [show a + (b - a) = b by omega], List.take_add]

theorem convert_back (w : World) (g cap base : Nat) (d : ByteArray) (h : w.ownsRow base 5 1 (.slice (some ⟨g, 0, none⟩) d.size cap) d.size (Lib.strCells (d.extract 0 d.size))) :
    (convert 54 9 (.slice (some ⟨g, 0, none⟩) d.size cap)).run Try.prog w = .ok (.string d) w := by
  have e := run_convert_bytes_back (P := Try.prog) w 54 9 5 ⟨g, 0, none⟩ cap d.data.toList Try.underlying54 Try.underlying5 Try.underlying9 (fun j hj => by
    rw [Addr.add_lit, Nat.zero_add, h.cellAt j (by simpa using hj), extract_all, Lib.strCells]
    simp [List.getElem?_eq_getElem hj])
  have e2 : d.data.toList.length = d.size := by rw [Array.length_toList]; rfl
  rw [e2, Joins.bytes_eta] at e
  exact e

theorem own_grown {w wr w1 : World} {B j e : Nat} {v : Value} {xs : List Value} (hown : wr.ownsRow B e 1 v j xs) (hbel : Below B w wr) (hB : w.heap.size = B)
    (hgrow : wr.grownBy w1 v.ownBlock) : Below B w w1 := by
  have hl := hown.lt
  have hs := hbel.size
  exact hbel.grown hgrow (by omega) (fun k hk => (hl k hk).1)

set_option maxRecDepth 100000 in
set_option maxHeartbeats 2000000 in
theorem joins20 (a : Option Addr) (L c : Nat) (d : ByteArray) (Cc : Nat → Nat) (w : World) (hL : L ≤ 1000000) (hd : d.size ≤ 65536)
    (hC0 : Cc 0 = 0) (hCL : Cc L = d.size) (hmono : ∀ t, t < L → Cc t ≤ Cc (t + 1)) (hle : ∀ t, t ≤ L → Cc t ≤ d.size)
    (hS : Cells w a L (fun t => .string (d.extract (Cc t) (Cc (t + 1))))) :
    Calls Try.prog 20 #[.slice a L c, .string d] w fun e w' => e = .returned (.bool true) ∧ Below w.heap.size w w' := by
  obtain ⟨i5, hi, hz0, hz1, hz2⟩ := info_parts info5
  have HC : Hid (Cc 0 = 0 ∧ Cc L = d.size ∧ (∀ t, t < L → Cc t ≤ Cc (t + 1)) ∧ (∀ t, t ≤ L → Cc t ≤ d.size)) := ⟨hC0, hCL, hmono, hle⟩
  clear hC0 hCL hmono hle
  go_enter Try.func20, Try.ntmps20
  go_wp2_with (at_make; refine wpList_make_own _ rfl _ _ 54 rfl w.heap.size 5 i5 (.int .u8 0) 1 Try.underlying54 hi hz0 hz1 _ _ _ d.size rfl rfl ?m1 ?m2 ?m3 ?m4 ?_)
  case m1 => rfl
  case m2 => rw [hz2]; omega
  case m3 => unfold maxLen; omega
  case m4 => exact Nat.le_refl _
  intro w1 hown1 hgrow1
  have hb1 : Below w.heap.size w w1 := (Below.refl _ _).grown hgrow1 (Nat.le_refl _) (fun k h => by cases h)
  clear hgrow1
  go_wp2
  go_loopw [5, 6] (fun v i wr => ∃ k g cap : Nat, k ≤ L ∧ i = .int .i64 k ∧ v = .slice (some ⟨g, 0, none⟩) (Cc k) cap ∧ wr.ownsRow w.heap.size 5 1 v (Cc k) (Lib.strCells (d.extract 0 (Cc k))) ∧ Below w.heap.size w wr) (fun _ i _ => L - (intOf i).toNat)
  case atStart =>
    refine ⟨0, w.heap.size, d.size, Nat.zero_le _, rfl, by rw [HC.out.1], ?_, hb1⟩
    rw [HC.out.1]
    have e : Lib.strCells (d.extract 0 0) = [] := by unfold Lib.strCells; rw [Lib.extract_data]; simp
    rw [e]
    exact hown1
  case round =>
    obtain ⟨k, g, cap, hk, rfl, rfl, hown, hbel⟩ := hrel
    by_cases hlt : k < L
    · obtain ⟨b, off, rfl, hc⟩ := hS (by omega)
      have hcell : wr.cell? ⟨b, off + k, none⟩ = some (.string (d.extract (Cc k) (Cc (k + 1)))) := by
        rw [hbel.cell (World.block_lt_of_cell? w _ (hc k hlt))]; exact hc k hlt
      have h1 := HC.out.2.2.1 k hlt
      have h2 := HC.out.2.2.2 (k + 1) (by omega)
      have hsz := size_piece d (Cc k) (Cc (k + 1)) h2
      have HJ : Hid (Lib.strCells (d.extract 0 (Cc k)) ++ Lib.strCells (d.extract (Cc k) (Cc (k + 1))) = Lib.strCells (d.extract 0 (Cc (k + 1)))) := strCells_join d _ _ h1
      have HP : Hid (Cc k + (d.extract (Cc k) (Cc (k + 1))).size = Cc (k + 1)) := by unfold Hid; omega
      have l1 : ((Cc k : Nat) : Int) + ((d.extract (Cc k) (Cc (k + 1))).size : Int) ≤ (d.size : Int) := by omega
      clear hc hS hsz
      generalize d.extract (Cc k) (Cc (k + 1)) = pc at *
      go_wp2_with (at_builtin; refine Lib.wpList_append_own_string _ rfl _ _ 54 9 rfl w.heap.size 5 i5 Try.underlying54 Try.underlying9 hi hz0 hz1 hz2 _ _ _ rfl hown pc rfl ?c3 ?c4 ?c5 ?_)
      case c3 => unfold maxLen; omega
      case c4 => omega
      case c5 => exact hbel.size
      intro v' w2 hown' hgrow hnil
      have R := own_grown hown hbel rfl hgrow
      rw [HJ.out, HP.out] at hown'
      have hex : ∃ g' cap', v' = .slice (some ⟨g', 0, none⟩) (Cc (k + 1)) cap' := by
        rcases Joins.ownsRow_forms hown' with ⟨h, _⟩ | h
        · exact absurd h (by simpa using hnil)
        · exact h
      obtain ⟨g', cap', hv⟩ := hex
      clear hgrow hown hbel hnil
      subst hv
      have HW : Hid (w2.ownsRow w.heap.size 5 1 (.slice (some ⟨g', 0, none⟩) (Cc (k + 1)) cap') (Cc (k + 1)) (Lib.strCells (d.extract 0 (Cc (k + 1))))) := hown'
      clear hown'
      go_wp2
      go_roundw
      case rel => exact ⟨k + 1, g', cap', by omega, by go_num, rfl, HW.out, R⟩
      case measure => simp [intOf]; omega
    · have : k = L := by omega
      subst this
      rw [HC.out.2.1] at hown ⊢
      have hcv := convert_back wr g cap _ d hown
      clear hown
      go_wp2
      go_ret
      exact ⟨rfl, hbel⟩

end Go.Proofs.Qxb6605463a
