/-
  A history in memory: its struct, its ring. ZZMakeHistory; (*history).at.
-/
import Derived.Test.Qxb6605552aKit
import Derived.Deep.QuietTactic
import Derived.BigQuiet
import Derived.RegionTactic
import Derived.BigRegion
import Derived.Deep.RegionHeld3
namespace Go.Proofs.Qxb6605552a
open Go.RowKit

/-- Block b is a ring of L places: place i holds the payload P i and the member M i. -/
def Ring (w : World) (b L : Nat) (M : Nat → Int) (P : Nat → Pay) : Prop :=
  ∃ f, w.rowIs b 44 (L * 2) f ∧ ∀ i, i < L → f (i * 2) = pv (P i) ∧ f (i * 2 + 1) = .int .i32 (M i)

section
variable {w : World} {b L : Nat} {M : Nat → Int} {P : Nat → Pay}
theorem Ring.pay (h : Ring w b L M P) {i : Nat} (hi : i < L) : w.cell? ⟨b, i * 2, none⟩ = some (.slice (P i).1 (P i).2.1 (P i).2.2) := by
  obtain ⟨f, hr, hf⟩ := h
  rw [hr.cell (by omega), (hf i hi).1]
theorem Ring.mem (h : Ring w b L M P) {i : Nat} (hi : i < L) : w.cell? ⟨b, i * 2 + 1, none⟩ = some (.int .i32 (M i)) := by
  obtain ⟨f, hr, hf⟩ := h
  rw [hr.cell (by omega), (hf i hi).2]
theorem Ring.frozen (h : Ring w b L M P) (j : Nat) : w.frozen? ⟨b, j, none⟩ = false := by
  obtain ⟨f, hr, _⟩ := h
  exact hr.frozen j
theorem Ring.lt (h : Ring w b L M P) : b < w.heap.size := by
  obtain ⟨f, hr, _⟩ := h
  exact hr.lt
theorem Ring.of_block {w' : World} (h : Ring w b L M P) (e : w'.heap[b]? = w.heap[b]?) : Ring w' b L M P := by
  obtain ⟨f, hr, hf⟩ := h
  exact ⟨f, hr.of_block e, hf⟩
theorem Ring.congr {M' : Nat → Int} {P' : Nat → Pay} (h : Ring w b L M P) (hm : ∀ i, i < L → M i = M' i) (hp : ∀ i, i < L → P i = P' i) : Ring w b L M' P' := by
  obtain ⟨f, hr, hf⟩ := h
  exact ⟨f, hr, fun i hi => by rw [(hf i hi).1, (hf i hi).2, hm i hi, hp i hi]; exact ⟨rfl, rfl⟩⟩
theorem Ring.other (h : Ring w b L M P) {a : Addr} (hne : b ≠ a.block) (v : Value) : Ring (w.setCell a v) b L M P := h.of_block (Below.heap_setCell w a v b hne)
theorem Ring.drewN (h : Ring w b L M P) (q : Nat) : Ring (w.drewN q) b L M P := h.of_block rfl
theorem Ring.drew (h : Ring w b L M P) : Ring w.drew b L M P := h
theorem Ring.set (h : Ring w b L M P) (i : Nat) (t : Pay) (m : Int) :
    Ring ((w.setCell ⟨b, i * 2, none⟩ (pv t)).setCell ⟨b, i * 2 + 1, none⟩ (.int .i32 m)) b L (fun j => if j = i then m else M j) (fun j => if j = i then t else P j) := by
  obtain ⟨f, hr, hf⟩ := h
  refine ⟨_, (hr.set (i * 2) _).set (i * 2 + 1) _, fun j hj => ?_⟩
  by_cases e : j = i
  · subst e
    refine ⟨?_, ?_⟩
    · dsimp only; rw [if_neg (by omega), if_pos rfl, if_pos rfl]
    · dsimp only; rw [if_pos rfl, if_pos rfl]
  · refine ⟨?_, ?_⟩
    · dsimp only; rw [if_neg (by omega), if_neg (by omega), if_neg e]; exact (hf j hj).1
    · dsimp only; rw [if_neg (by omega), if_neg (by omega), if_neg e]; exact (hf j hj).2
end

/-- Block b is a history's struct. -/
def HS (w : World) (b : Nat) (r f : Int) (br L : Nat) (h n m : Int) : Prop :=
  w.heap[b]? = some (.cells #[.int .i64 r, .int .u64 f, .slice (some ⟨br, 0, none⟩) L L, .int .i64 h, .int .i64 n, .int .i64 m] 46 (0, 0))

section
variable {w : World} {b br L : Nat} {r f h n m : Int}
theorem HS.cells (H : HS w b r f br L h n m) : w.cell? ⟨b, 0, none⟩ = some (.int .i64 r) ∧ w.cell? ⟨b, 1, none⟩ = some (.int .u64 f) ∧ w.cell? ⟨b, 2, none⟩ = some (.slice (some ⟨br, 0, none⟩) L L) ∧
    w.cell? ⟨b, 3, none⟩ = some (.int .i64 h) ∧ w.cell? ⟨b, 4, none⟩ = some (.int .i64 n) ∧ w.cell? ⟨b, 5, none⟩ = some (.int .i64 m) := by
  unfold HS at H
  refine ⟨?_, ?_, ?_, ?_, ?_, ?_⟩ <;> (rw [cell_of_row w b _ _ 46 (0, 0) H]; rfl)
theorem HS.frozen (H : HS w b r f br L h n m) (i : Nat) : w.frozen? ⟨b, i, none⟩ = false := frozen_of_row w b i _ 46 H
theorem HS.lt (H : HS w b r f br L h n m) : b < w.heap.size := (Array.getElem?_eq_some_iff.1 H).1
theorem HS.of_block {w' : World} (H : HS w b r f br L h n m) (e : w'.heap[b]? = w.heap[b]?) : HS w' b r f br L h n m := e.trans H
theorem HS.other (H : HS w b r f br L h n m) {a : Addr} (hne : b ≠ a.block) (v : Value) : HS (w.setCell a v) b r f br L h n m := H.of_block (Below.heap_setCell w a v b hne)
theorem HS.drewN (H : HS w b r f br L h n m) (q : Nat) : HS (w.drewN q) b r f br L h n m := H.of_block rfl
theorem HS.drew (H : HS w b r f br L h n m) : HS w.drew b r f br L h n m := H
theorem HS.set1 (H : HS w b r f br L h n m) (x : Int) : HS (w.setCell ⟨b, 1, none⟩ (.int .u64 x)) b r x br L h n m := by
  have := heap_setCell_same w b 1 _ 46 (.int .u64 x) H
  exact this
theorem HS.set2 (H : HS w b r f br L h n m) (br' L' : Nat) : HS (w.setCell ⟨b, 2, none⟩ (.slice (some ⟨br', 0, none⟩) L' L')) b r f br' L' h n m := by
  have := heap_setCell_same w b 2 _ 46 (.slice (some ⟨br', 0, none⟩) L' L') H
  exact this
theorem HS.set3 (H : HS w b r f br L h n m) (x : Int) : HS (w.setCell ⟨b, 3, none⟩ (.int .i64 x)) b r f br L x n m := by
  have := heap_setCell_same w b 3 _ 46 (.int .i64 x) H
  exact this
theorem HS.set4 (H : HS w b r f br L h n m) (x : Int) : HS (w.setCell ⟨b, 4, none⟩ (.int .i64 x)) b r f br L h x m := by
  have := heap_setCell_same w b 4 _ 46 (.int .i64 x) H
  exact this
theorem HS.set5 (H : HS w b r f br L h n m) (x : Int) : HS (w.setCell ⟨b, 5, none⟩ (.int .i64 x)) b r f br L h n x := by
  have := heap_setCell_same w b 5 _ 46 (.int .i64 x) H
  exact this
end

theorem run_make_ring (n : Nat) (hn : n ≤ 1000000) (w : World) :
    (Instr.makeSlice 42 (.int .i64 (n : Int)) (.int .i64 (n : Int))).run Try.prog w = .ok (.slice (some ⟨w.heap.size, 0, none⟩) n n) (w.alloc (.cells (madeCells #[.slice none 0 0, .int .i32 0] (n * 2)) 44)) := by
  obtain ⟨i, hi, hz, hs, hb⟩ := info_parts info44
  have hr := run_make (P := Try.prog) w 42 44 i _ Try.underlying42 hi hz .i64 .i64 n n (by omega) (Int.le_refl _) (by rw [hb]; omega) (by omega)
  simpa only [Int.toNat_natCast, hs, Value.cells] using hr

theorem made_ring (n : Nat) (w : World) : Ring (w.alloc (.cells (madeCells #[.slice none 0 0, .int .i32 0] (n * 2)) 44)) w.heap.size n (fun _ => 0) (fun _ => nilPay) := by
  refine ⟨fun i => if i % 2 = 0 then .slice none 0 0 else .int .i32 0, ⟨_, heap_alloc_new _ _, size_madeCells _ _, fun i hi => ?_⟩, fun i hi => ⟨?_, ?_⟩⟩
  · have h2 : i % 2 = 0 ∨ i % 2 = 1 := by omega
    rcases h2 with e | e <;> simp [madeCells, hi, e]
  · dsimp only; rw [if_pos (by omega)]; rfl
  · dsimp only; rw [if_neg (by omega)]

theorem Ring.set_step {wr : World} {b L k : Nat} {M : Nat → Int} {P : Nat → Pay} (h : Ring wr b L (fun i => if i < k then M i else 0) (fun i => if i < k then P i else nilPay)) :
    Ring ((wr.setCell ⟨b, k * 2, none⟩ (pv (P k))).setCell ⟨b, k * 2 + 1, none⟩ (.int .i32 (M k))) b L (fun i => if i < k + 1 then M i else 0) (fun i => if i < k + 1 then P i else nilPay) := by
  refine (h.set k (P k) (M k)).congr (fun i _ => ?_) (fun i _ => ?_)
  · by_cases e : i = k
    · subst e; simp
    · by_cases l : i < k
      · simp [e, l, show i < k + 1 by omega]
      · simp [e, l, show ¬ i < k + 1 by omega]
  · by_cases e : i = k
    · subst e; simp
    · by_cases l : i < k
      · simp [e, l, show i < k + 1 by omega]
      · simp [e, l, show ¬ i < k + 1 by omega]

set_option maxHeartbeats 1000000 in
theorem make12 (r f h n m : Int) (a0 a1 : Option Addr) (L c0 c1 : Nat) (M : Nat → Int) (P : Nat → Pay) (w : World) (hL : L ≤ 65536)
    (h0 : Cells w a0 L (fun i => .int .i32 (M i))) (h1 : Cells w a1 L (fun i => pv (P i))) :
    Calls Try.prog 12 #[.int .i64 r, .int .u64 f, .slice a0 L c0, .slice a1 L c1, .int .i64 h, .int .i64 n, .int .i64 m] w fun e w' =>
      ∃ bs br, e = .returned (.pointer (some ⟨bs, 0, none⟩)) ∧ Below w.heap.size w w' ∧ HS w' bs r f br L h n m ∧ Ring w' br L M P ∧ w.heap.size ≤ br ∧ br < bs := by
  have hmk := run_make_ring L (by omega)
  go_enter Try.func12, Try.ntmps12
  go_wp2
  go_loopw [22] (fun i wr => ∃ k : Nat, k ≤ L ∧ i = .int .i64 k ∧ Ring wr w.heap.size L (fun i => if i < k then M i else 0) (fun i => if i < k then P i else nilPay) ∧ Below w.heap.size w wr) (fun i _ => L - (intOf i).toNat)
  case atStart => exact ⟨0, Nat.zero_le _, rfl, (made_ring L w).congr (fun i _ => by simp) (fun i _ => by simp), (Below.refl _ _).alloc (Nat.le_refl _) _⟩
  case round =>
    obtain ⟨k, hk, rfl, hring, hbel⟩ := hrel
    by_cases hlt : k < L
    · obtain ⟨b0, o0, rfl, e0⟩ := h0 (by omega)
      obtain ⟨b1, o1, rfl, e1⟩ := h1 (by omega)
      have l0 := World.block_lt_of_cell? w _ (e0 k hlt)
      have l1 := World.block_lt_of_cell? w _ (e1 k hlt)
      have g0 : wr.cell? ⟨b0, o0 + k, none⟩ = some (.int .i32 (M k)) := (hbel.cell l0).trans (e0 k hlt)
      have g1 : wr.cell? ⟨b1, o1 + k, none⟩ = some (.slice (P k).1 (P k).2.1 (P k).2.2) := (hbel.cell l1).trans (e1 k hlt)
      have c0 := hring.pay hlt
      have c1 := hring.mem hlt
      have z0 := hring.frozen (k * 2)
      have z1 := hring.frozen (k * 2 + 1)
      have b00 : (0 : Int) ≤ (k : Int) := by omega
      have b01 : (k : Int) < (L : Int) := by omega
      have n0 : ¬ w.heap.size = b0 := by simp at l0; omega
      have n1 : ¬ w.heap.size = b1 := by simp at l1; omega
      have R1 := Ring.set_step hring
      have R : Hid (_ ∧ _) := ⟨R1, hbel⟩
      clear R1 l0 l1 e0 e1 h0 h1 hmk hbel hring
      go_wp2
      go_region_held3 (fun w' => w'.cell? ⟨b0, o0 + k, none⟩ = some (.int .i32 (M k)) ∧ w'.cell? ⟨b1, o1 + k, none⟩ = some (.slice (P k).1 (P k).2.1 (P k).2.2)) (go_keep) (fail)
      go_wp2
      go_roundw
      case rel => exact ⟨k + 1, by omega, by go_num, R.out.1.drew, ((R.out.2.setCell (Nat.le_refl _) _).setCell (Nat.le_refl _) _).drew⟩
      case measure => simp [intOf]; omega
    · have : k = L := by omega
      subst this
      go_wp2
      go_ret
      refine ⟨wr.heap.size, w.heap.size, rfl, hbel.alloc hbel.size _, heap_alloc_new _ _, ?_, Nat.le_refl _, hring.lt⟩
      exact (hring.congr (fun i hi => by simp [hi]) (fun i hi => by simp [hi])).of_block (Below.heap_alloc wr _ _ hring.lt)

set_option maxHeartbeats 1000000 in
theorem at21 (bs br L : Nat) (r f n m : Int) (h k : Nat) (w : World) (hL : 0 < L) (hl : L ≤ 500000) (hp : ∃ k, L = 2 ^ k) (hk : h + k ≤ 1000000) (H : HS w bs r f br L h n m) :
    Calls Try.prog 21 #[.pointer (some ⟨bs, 0, none⟩), .int .i64 k] w fun e w' => e = .returned (.pointer (some ⟨br, (h + k) % L * 2, none⟩)) ∧ ∃ q, w' = w.drewN q := by
  obtain ⟨c0, c1, c2, c3, c4, c5⟩ := H.cells
  have hm := mask2 L h k hL hp hk (by omega)
  have hlt2 : (h + k) % L < L := Nat.mod_lt _ hL
  generalize (h + k) % L = s at *
  have b00 : (0 : Int) ≤ (s : Int) := by omega
  have b01 : (s : Int) < (L : Int) := by omega
  have b02 : IntKind.i64.wrap ((h : Int) + (k : Int)) = (h : Int) + (k : Int) := by rw [IntKind.wrap_i64]; omega
  have b03 : IntKind.i64.wrap ((L : Int) - 1) = (L : Int) - 1 := by rw [IntKind.wrap_i64]; omega
  clear H hp
  go_enter Try.func21, Try.ntmps21
  go_wp2
  go_quiet (fail)
  go_wp2
  go_ret
  exact ⟨rfl, _, rfl⟩

end Go.Proofs.Qxb6605552a
