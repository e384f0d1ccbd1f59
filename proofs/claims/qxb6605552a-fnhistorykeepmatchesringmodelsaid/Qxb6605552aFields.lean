/-
  ZZHistoryFields.
-/
import Derived.Test.Qxb6605552aHist
namespace Go.Proofs.Qxb6605552a
open Go.RowKit

theorem copy_step {wr : World} {b : Nat} {t : TypeId} {n k : Nat} {f : Nat → Value} {z : Value} (h : wr.rowIs b t n (fun i => if i < k then f i else z)) :
    (wr.setCell ⟨b, k, none⟩ (f k)).rowIs b t n (fun i => if i < k + 1 then f i else z) := by
  refine (h.set k (f k)).congr fun i _ => ?_
  by_cases e : i = k
  · subst e; simp
  · by_cases l : i < k
    · simp [e, l, show i < k + 1 by omega]
    · simp [e, l, show ¬ i < k + 1 by omega]

/-- What ZZHistoryFields hands back. -/
def Fields (w' : World) (e : Ending) (r f h n m : Int) (L : Nat) (M : Nat → Int) (P : Nat → Pay) : Prop :=
  ∃ bm bp, e = .returned (.tuple #[.int .i64 r, .int .u64 f, .slice (some ⟨bm, 0, none⟩) L L, .slice (some ⟨bp, 0, none⟩) L L, .int .i64 h, .int .i64 n, .int .i64 m]) ∧
    Cells w' (some ⟨bm, 0, none⟩) L (fun i => .int .i32 (M i)) ∧ Cells w' (some ⟨bp, 0, none⟩) L (fun i => pv (P i))

set_option maxRecDepth 100000 in
set_option maxHeartbeats 2000000 in
theorem fields14 (bs br L : Nat) (r f h n m : Int) (M : Nat → Int) (P : Nat → Pay) (w : World) (hL : L ≤ 200000) (H : HS w bs r f br L h n m) (hR : Ring w br L M P) :
    Calls Try.prog 14 #[.pointer (some ⟨bs, 0, none⟩)] w fun e w' => Fields w' e r f h n m L M P ∧ Below w.heap.size w w' := by
  have hmk1 := run_make_row' (P := Try.prog) 27 21 (.int .i32 0) 4 Try.underlying27 info21 rfl .i64 .i64 L (by omega) (by omega)
  have hmk2 := run_make_row' (P := Try.prog) 28 29 (.slice none 0 0) 24 Try.underlying28 info29 rfl .i64 .i64 L (by omega) (by omega)
  obtain ⟨c0, c1, c2, c3, c4, c5⟩ := H.cells
  have hlt := H.lt
  have hltr := hR.lt
  have HC : Hid (HS w bs r f br L h n m ∧ Ring w br L M P) := ⟨H, hR⟩
  clear H hR
  go_enter Try.func14, Try.ntmps14
  go_wp2
  go_loopw [27] (fun i wr => ∃ k : Nat, k ≤ L ∧ i = .int .i64 k ∧ wr.rowIs w.heap.size 21 L (fun i => if i < k then .int .i32 (M i) else .int .i32 0) ∧
      wr.rowIs (w.heap.size + 1) 29 L (fun i => if i < k then pv (P i) else .slice none 0 0) ∧ Below w.heap.size w wr) (fun i _ => L - (intOf i).toNat)
  case atStart =>
    refine ⟨0, Nat.zero_le _, rfl, ?_, ?_, ((Below.refl _ _).alloc (Nat.le_refl _) _).alloc (by simp) _⟩
    · exact ((World.rowIs_made w _ L _).congr (fun i _ => by simp)).alloc _
    · have e := World.rowIs_made (w.alloc (.cells (madeCells #[.int .i32 0] L) 21)) (.slice none 0 0) L 29
      rw [World.size_alloc] at e
      exact e.congr (fun i _ => by simp)
  case round =>
    obtain ⟨k, hk, rfl, hr1, hr2, hbel⟩ := hrel
    have hH : HS wr bs r f br L h n m := HC.out.1.of_block (hbel.block _ hlt)
    have hRg : Ring wr br L M P := HC.out.2.of_block (hbel.block _ hltr)
    obtain ⟨d0, d1, d2, d3, d4, d5⟩ := hH.cells
    have n1 : ¬ w.heap.size = bs := by omega
    have n2 : ¬ w.heap.size = br := by omega
    have n3 : ¬ w.heap.size + 1 = bs := by omega
    have n4 : ¬ w.heap.size + 1 = br := by omega
    have n5 : ¬ bs = w.heap.size := by omega
    have n6 : ¬ br = w.heap.size := by omega
    by_cases hlt' : k < L
    · have b00 : (0 : Int) ≤ (k : Int) := by omega
      have b01 : (k : Int) < (L : Int) := by omega
      have e0 := hRg.pay hlt'
      have e1 := hRg.mem hlt'
      have g1 := hr1.cell hlt'
      have g2 := hr2.cell hlt'
      have z1 := hr1.frozen k
      have z2 := hr2.frozen k
      simp at g1 g2
      have R1 := (copy_step (f := fun i => .int .i32 (M i)) hr1).setOther (a := ⟨w.heap.size + 1, k, none⟩) (by simp) (pv (P k))
      have R2 := copy_step (f := fun i => pv (P i)) (hr2.setOther (a := ⟨w.heap.size, k, none⟩) (by simp) (.int .i32 (M k)))
      have R3 := (hbel.setCell (p := ⟨w.heap.size, k, none⟩) (Nat.le_refl _) (.int .i32 (M k))).setCell (p := ⟨w.heap.size + 1, k, none⟩) (by simp) (pv (P k))
      have R : Hid (_ ∧ _ ∧ _) := ⟨R1, R2, R3⟩
      clear R1 R2 R3 hr1 hr2 hbel hH hRg hmk1 hmk2 c0 c1 c2 c3 c4 c5
      go_wp2
      go_roundw
      case rel => exact ⟨k + 1, by omega, by go_num, R.out.1, R.out.2.1, R.out.2.2⟩
      case measure => simp [intOf]; omega
    · have : k = L := by omega
      subst this
      clear hmk1 hmk2 c0 c1 c2 c3 c4 c5 hH hRg
      have RR : Hid (Cells wr (some ⟨w.heap.size, 0, none⟩) k (fun i => .int .i32 (M i)) ∧ Cells wr (some ⟨w.heap.size + 1, 0, none⟩) k (fun i => pv (P i)) ∧ Below w.heap.size w wr) :=
        ⟨Cells.of_row (hr1.congr fun i hi => by simp [hi]), Cells.of_row (hr2.congr fun i hi => by simp [hi]), hbel⟩
      clear hr1 hr2 hbel
      go_wp2
      go_quiet (fail)
      go_wp2
      refine bodyPost_ret (v := .tuple #[.int .i64 r, .int .u64 f, .slice (some ⟨w.heap.size, 0, none⟩) k k, .slice (some ⟨w.heap.size + 1, 0, none⟩) k k, .int .i64 h, .int .i64 n, .int .i64 m]) (by simp [results, Try.results14, go_sem]) rfl ?_
      exact ⟨⟨_, _, rfl, RR.out.1.later (below_drewN _ _ _), RR.out.2.1.later (below_drewN _ _ _)⟩, RR.out.2.2.trans (below_drewN _ _ _)⟩

end Go.Proofs.Qxb6605552a
