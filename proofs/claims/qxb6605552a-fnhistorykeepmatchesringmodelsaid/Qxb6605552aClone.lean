/-
  The copies of byte slices; their comparison.
-/
import Derived.Test.Qxb6605552aKit
import Derived.Laws.CopyOwn
import Derived.Deep.QuietTactic
import Derived.BigQuiet
namespace Go.Proofs.Qxb6605552a
open Go.RowKit

theorem cells_of_block {w : World} {g n : Nat} {t : TypeId} {f : Nat → Value} (h : w.heap[g]? = some (.cells (splice (List.replicate n (.int .u8 0)) 0 ((List.range n).map f)).toArray t (0, 0))) : Cells w (some ⟨g, 0, none⟩) n f := by
  refine fun _ => ⟨g, 0, rfl, fun i hi => ?_⟩
  rw [cell_of_row w g (0 + i) _ t (0, 0) h]
  simp [splice, hi]

set_option maxHeartbeats 1000000 in
theorem clone11 (a : Option Addr) (n c : Nat) (B : Nat → Int) (w : World) (hn : n ≤ 1048576) (hS : Cells w a n (fun i => .int .u8 (B i))) :
    Calls Try.prog 11 #[.slice a n c] w fun e w' => ∃ t : Pay, e = .returned (pv t) ∧ Below w.heap.size w w' ∧ PayOK w' t ∧ t.2.1 = n := by
  have q29 : ∀ (w : World) (a : Option Addr) (n c n' c' : Nat), (binOp .eql 29 (.slice a n c) (.slice none n' c')).run Try.prog w = .ok (.bool a.isNone) w := fun w a n c n' c' => Lib.run_eql_slice_nil w _ _ a n c n' c' Try.underlying29
  have hmk := run_make_row' (P := Try.prog) 29 5 (.int .u8 0) 1 Try.underlying29 info5 rfl .i64 .i64 n (by omega) (by omega)
  cases a with
  | none =>
    have hn0 : n = 0 := by
      by_cases h : 0 < n
      · obtain ⟨b, off, e, _⟩ := hS h
        cases e
      · omega
    subst hn0
    go_enter Try.func11, Try.ntmps11
    go_wp2
    go_ret
    exact ⟨(none, 0, 0), rfl, Below.refl _ _, PayOK.nil w, rfl⟩
  | some a =>
    have hb0 : Below w.heap.size w (w.alloc (.cells (madeCells #[.int .u8 0] n) 5)) := (Below.refl _ _).alloc (Nat.le_refl _) _
    have hg : (w.alloc (.cells (madeCells #[.int .u8 0] n) 5)).heap[w.heap.size]? = some (.cells (List.replicate n (.int .u8 0)).toArray 5 (0, 0)) := by
      rw [heap_alloc_new, ← toList_madeCells_one]
    go_enter Try.func11, Try.ntmps11
    go_wp2_with (refine wpList_copy_splice rfl _ _ 29 29 rfl 5 Try.underlying29 (by kernel_rfl) _ _ _ _ _ _ rfl rfl w.heap.size 0 (List.replicate n (.int .u8 0)) 5 hg ((List.range n).map fun i => .int .u8 (B i)) ?c1 ?c2 ?c3 ?c4 w.heap.size w hb0 (Nat.le_refl _) ?_)
    case c1 => simp
    case c2 =>
      intro hn0 j x hx
      obtain ⟨b, off, e, hc⟩ := hS hn0
      obtain rfl := Option.some.inj e
      obtain ⟨hj, rfl⟩ : j < n ∧ x = j := by
        have := List.getElem?_eq_some_iff.1 hx
        obtain ⟨h1, h2⟩ := this
        simp at h1 h2
        exact ⟨h1, h2.symm⟩
      rw [Addr.add_lit, hb0.cell (World.block_lt_of_cell? w _ (hc x hj))]
      exact hc x hj
    case c3 => simp
    case c4 =>
      intro v hv
      obtain ⟨i, _, rfl⟩ := List.mem_map.1 hv
      rfl
    intro w' hrow hbel
    clear hmk q29 hb0 hg
    go_wp2
    go_ret
    exact ⟨(some ⟨w.heap.size, 0, none⟩, n, n), rfl, hbel, ⟨hn, B, cells_of_block hrow.out⟩, rfl⟩

/-- What is behind a copy of a list of byte slices. -/
def Copied (w w' : World) (e : Ending) (n : Nat) : Prop :=
  ∃ (a : Option Addr) (c : Nat) (V : Nat → Pay), e = .returned (.slice a n c) ∧ Below w.heap.size w w' ∧ Cells w' a n (fun i => pv (V i)) ∧ ∀ i, i < n → PayOK w' (V i)

theorem row_step {wr : World} {b n k : Nat} {V : Nat → Pay} {t : Pay} (h : wr.rowIs b 29 n (fun i => if i < k then pv (V i) else .slice none 0 0)) (hV : ∀ i, i < k → PayOK wr (V i)) (ht : PayOK wr t) :
    (wr.setCell ⟨b, k, none⟩ (pv t)).rowIs b 29 n (fun i => if i < k + 1 then pv ((fun j => if j = k then t else V j) i) else .slice none 0 0) ∧
      ∀ i, i < k + 1 → PayOK (wr.setCell ⟨b, k, none⟩ (pv t)) ((fun j => if j = k then t else V j) i) := by
  have hf : ∀ i, i < n → ∀ x, (fun i => if i < k then pv (V i) else .slice none 0 0) i ≠ .int .u8 x := by
    intro i _ x
    dsimp only
    split <;> simp
  refine ⟨(h.set k (pv t)).congr fun i _ => ?_, fun i hi => ?_⟩
  · by_cases e : i = k
    · subst e; simp
    · by_cases l : i < k
      · simp [e, l, show i < k + 1 by omega]
      · simp [e, l, show ¬ i < k + 1 by omega]
  · by_cases e : i = k
    · subst e
      simpa using ht.set h hf i (pv t)
    · simp only [if_neg e]
      exact (hV i (by omega)).set h hf k (pv t)

set_option maxHeartbeats 1000000 in
theorem clone10 (a : Option Addr) (n c : Nat) (V : Nat → Pay) (w : World) (hn : n ≤ 65536) (hS : Cells w a n (fun i => pv (V i))) (hV : ∀ i, i < n → PayOK w (V i)) :
    Calls Try.prog 10 #[.slice a n c] w fun e w' => Copied w w' e n := by
  have q28 : ∀ (w : World) (a : Option Addr) (n c n' c' : Nat), (binOp .eql 28 (.slice a n c) (.slice none n' c')).run Try.prog w = .ok (.bool a.isNone) w := fun w a n c n' c' => Lib.run_eql_slice_nil w _ _ a n c n' c' Try.underlying28
  have hmk := run_make_row' (P := Try.prog) 28 29 (.slice none 0 0) 24 Try.underlying28 info29 rfl .i64 .i64 n (by omega) (by omega)
  cases a with
  | none =>
    have hn0 : n = 0 := by
      by_cases h : 0 < n
      · obtain ⟨b, off, e, _⟩ := hS h
        cases e
      · omega
    subst hn0
    go_enter Try.func10, Try.ntmps10
    go_wp2
    go_ret
    exact ⟨none, 0, V, rfl, Below.refl _ _, hS, hV⟩
  | some a =>
    have HV : Hid (∀ i, i < n → PayOK w (V i)) := hV
    clear hV
    go_enter Try.func10, Try.ntmps10
    go_wp2
    go_loopw [4] (fun i wr => ∃ (k : Nat) (U : Nat → Pay), k ≤ n ∧ i = .int .i64 k ∧ wr.rowIs w.heap.size 29 n (fun i => if i < k then pv (U i) else .slice none 0 0) ∧ (∀ i, i < k → PayOK wr (U i)) ∧ Below w.heap.size w wr) (fun i _ => n - (intOf i).toNat)
    case atStart => exact ⟨0, fun _ => nilPay, Nat.zero_le _, rfl, (World.rowIs_made _ _ _ _).congr (fun i _ => by simp), fun i hi => absurd hi (by omega), (Below.refl _ _).alloc (Nat.le_refl _) _⟩
    case round =>
      obtain ⟨k, U, hk, rfl, hrow, hU, hbel⟩ := hrel
      by_cases hlt : k < n
      · obtain ⟨b, off, ha, hc⟩ := hS (by omega)
        obtain rfl := Option.some.inj ha
        have hbl := World.block_lt_of_cell? w _ (hc k hlt)
        have g1 : wr.cell? ⟨b, off + k, none⟩ = some (.slice (V k).1 (V k).2.1 (V k).2.2) := (hbel.cell hbl).trans (hc k hlt)
        obtain ⟨p1, B, p2⟩ := (HV.out k hlt)
        have p3 : Cells wr (V k).1 (V k).2.1 (fun i => .int .u8 (B i)) := by
          intro h0
          obtain ⟨b', off', e, hcc⟩ := p2 h0
          exact ⟨b', off', e, fun i hi => by rw [hbel.cell (World.block_lt_of_cell? w _ (hcc i hi))]; exact hcc i hi⟩
        have HU : Hid (∀ i, i < k → PayOK wr (U i)) := hU
        clear hU hc hS p2
        go_wp2_with fail
        refine (clone11 _ _ _ B _ p1 p3).mono ?_
        rintro e w2 ⟨t, rfl, hb2, ht, -⟩
        have hrow2 : w2.rowIs w.heap.size 29 n (fun i => if i < k then pv (U i) else .slice none 0 0) := hrow.of_block (hb2.block _ hrow.lt)
        have hbel2 : Below w.heap.size w w2 := hbel.trans (hb2.mono hbel.size)
        obtain ⟨r1, r2⟩ := row_step hrow2 (fun i hi => (HU.out i hi).later hb2) ht
        have R : Hid (_ ∧ _) := ⟨r1, r2⟩
        have R3 : Hid _ := hbel2.setCell (p := ⟨w.heap.size, k, none⟩) (Nat.le_refl _) (pv t)
        have g2 := hrow2.cell hlt
        have g3 := hrow2.frozen k
        simp at g2
        clear r1 r2 hbel2 hrow2 hb2 hrow hbel ht
        go_wp2
        go_roundw
        case rel => exact ⟨k + 1, _, by omega, by go_num, R.out.1, R.out.2, R3.out⟩
        case measure => simp [intOf]; omega
      · have : k = n := by omega
        subst this
        go_wp2
        go_ret
        exact ⟨_, _, U, rfl, hbel, Cells.of_row (hrow.congr fun i hi => by simp [hi]), hU⟩

end Go.Proofs.Qxb6605552a
