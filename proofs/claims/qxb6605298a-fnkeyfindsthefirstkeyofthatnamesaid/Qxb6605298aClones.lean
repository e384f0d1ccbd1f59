/-
  The four copies.
-/
import Derived.Test.Qxb6605298aKit
namespace Go.Proofs.Qxb6605298a
open Go.RowKit

/-- What is behind a copy: nil stays nil; else a new row with the same elements. -/
def Copied (w w' : World) (e : Ending) (n : Nat) (f : Nat → Value) : Prop :=
  ∃ a c, e = .returned (.slice a n c) ∧ Below w.heap.size w w' ∧ Cells w' a n f

theorem copy_step {wr : World} {b : Nat} {t : TypeId} {n k : Nat} {f : Nat → Value} {z : Value} (h : wr.rowIs b t n (fun i => if i < k then f i else z)) :
    (wr.setCell ⟨b, k, none⟩ (f k)).rowIs b t n (fun i => if i < k + 1 then f i else z) := by
  refine (h.set k (f k)).congr fun i _ => ?_
  by_cases e : i = k
  · subst e; simp
  · by_cases l : i < k
    · simp [e, l, show i < k + 1 by omega]
    · simp [e, l, show ¬ i < k + 1 by omega]

set_option maxHeartbeats 400000 in
theorem clone12 (a : Option Addr) (n c : Nat) (S : Nat → ByteArray) (w : World) (hn : n ≤ 4096) (hnil : a = none → n = 0) (hS : Cells w a n (fun i => .string (S i))) :
    Calls Try.prog 12 #[.slice a n c] w fun e w' => Copied w w' e n (fun i => .string (S i)) := by
  have q24 : ∀ (w : World) (a : Option Addr) (n c n' c' : Nat), (binOp .eql 24 (.slice a n c) (.slice none n' c')).run Try.prog w = .ok (.bool a.isNone) w := fun w a n c n' c' => Lib.run_eql_slice_nil w _ _ a n c n' c' Try.underlying24
  have hmk := run_make_row' (P := Try.prog) 24 9 (.string ⟨#[]⟩) 16 Try.underlying24 info9 rfl .i64 .i64 n (by omega) (by omega)
  cases a with
  | none =>
    obtain rfl := hnil rfl
    go_enter Try.func12, Try.ntmps12
    go_wp2
    go_ret
    exact ⟨none, 0, rfl, Below.refl _ _, hS⟩
  | some a =>
    go_enter Try.func12, Try.ntmps12
    go_wp2
    go_loopw [4] (fun i wr => ∃ k : Nat, k ≤ n ∧ i = .int .i64 k ∧ wr.rowIs w.heap.size 9 n (fun i => if i < k then .string (S i) else .string ⟨#[]⟩) ∧ Below w.heap.size w wr) (fun i _ => n - (intOf i).toNat)
    case atStart => exact ⟨0, Nat.zero_le _, rfl, (World.rowIs_made _ _ _ _).congr (fun i _ => by simp), (Below.refl _ _).alloc (Nat.le_refl _) _⟩
    case round =>
      obtain ⟨k, hk, rfl, hrow, hbel⟩ := hrel
      by_cases hlt : k < n
      · obtain ⟨b, off, ha, hc⟩ := hS (by omega)
        obtain rfl := Option.some.inj ha
        have hbl := World.block_lt_of_cell? w _ (hc k hlt)
        have g1 : wr.cell? ⟨b, off + k, none⟩ = some (.string (S k)) := (hbel.cell hbl).trans (hc k hlt)
        have g2 := hrow.cell hlt
        have g3 := hrow.frozen k
        have hne : ¬ w.heap.size = b := by simp at hbl; omega
        have R1 := copy_step hrow
        have R2 := hbel.setCell (p := ⟨w.heap.size, k, none⟩) (Nat.le_refl _) (.string (S k))
        have R : Hid ((wr.setCell ⟨w.heap.size, k, none⟩ (.string (S k))).rowIs w.heap.size 9 n (fun i => if i < k + 1 then .string (S i) else .string ⟨#[]⟩) ∧ Below w.heap.size w (wr.setCell ⟨w.heap.size, k, none⟩ (.string (S k)))) := ⟨R1, R2⟩
        simp at g2
        clear R1 R2 hc hbel hrow hmk q24 hS
        go_wp2
        go_roundw
        case rel => exact ⟨k + 1, by omega, by go_num, R.out.1, R.out.2⟩
        case measure => simp [intOf]; omega
      · have : k = n := by omega
        subst this
        go_wp2
        go_ret
        exact ⟨_, _, rfl, hbel, Cells.of_row (hrow.congr fun i hi => by simp [hi])⟩

set_option maxHeartbeats 400000 in
theorem clone13 (a : Option Addr) (n c : Nat) (S : Nat → Int) (w : World) (hn : n ≤ 4096) (hnil : a = none → n = 0) (hS : Cells w a n (fun i => .int .u64 (S i))) :
    Calls Try.prog 13 #[.slice a n c] w fun e w' => Copied w w' e n (fun i => .int .u64 (S i)) := by
  have q25 : ∀ (w : World) (a : Option Addr) (n c n' c' : Nat), (binOp .eql 25 (.slice a n c) (.slice none n' c')).run Try.prog w = .ok (.bool a.isNone) w := fun w a n c n' c' => Lib.run_eql_slice_nil w _ _ a n c n' c' Try.underlying25
  have hmk := run_make_row' (P := Try.prog) 25 27 (.int .u64 0) 8 Try.underlying25 info27 rfl .i64 .i64 n (by omega) (by omega)
  cases a with
  | none =>
    obtain rfl := hnil rfl
    go_enter Try.func13, Try.ntmps13
    go_wp2
    go_ret
    exact ⟨none, 0, rfl, Below.refl _ _, hS⟩
  | some a =>
    go_enter Try.func13, Try.ntmps13
    go_wp2
    go_loopw [4] (fun i wr => ∃ k : Nat, k ≤ n ∧ i = .int .i64 k ∧ wr.rowIs w.heap.size 27 n (fun i => if i < k then .int .u64 (S i) else .int .u64 0) ∧ Below w.heap.size w wr) (fun i _ => n - (intOf i).toNat)
    case atStart => exact ⟨0, Nat.zero_le _, rfl, (World.rowIs_made _ _ _ _).congr (fun i _ => by simp), (Below.refl _ _).alloc (Nat.le_refl _) _⟩
    case round =>
      obtain ⟨k, hk, rfl, hrow, hbel⟩ := hrel
      by_cases hlt : k < n
      · obtain ⟨b, off, ha, hc⟩ := hS (by omega)
        obtain rfl := Option.some.inj ha
        have hbl := World.block_lt_of_cell? w _ (hc k hlt)
        have g1 : wr.cell? ⟨b, off + k, none⟩ = some (.int .u64 (S k)) := (hbel.cell hbl).trans (hc k hlt)
        have g2 := hrow.cell hlt
        have g3 := hrow.frozen k
        have hne : ¬ w.heap.size = b := by simp at hbl; omega
        have R1 := copy_step hrow
        have R2 := hbel.setCell (p := ⟨w.heap.size, k, none⟩) (Nat.le_refl _) (.int .u64 (S k))
        have R : Hid ((wr.setCell ⟨w.heap.size, k, none⟩ (.int .u64 (S k))).rowIs w.heap.size 27 n (fun i => if i < k + 1 then .int .u64 (S i) else .int .u64 0) ∧ Below w.heap.size w (wr.setCell ⟨w.heap.size, k, none⟩ (.int .u64 (S k)))) := ⟨R1, R2⟩
        simp at g2
        clear R1 R2 hc hbel hrow hmk q25 hS
        go_wp2
        go_roundw
        case rel => exact ⟨k + 1, by omega, by go_num, R.out.1, R.out.2⟩
        case measure => simp [intOf]; omega
      · have : k = n := by omega
        subst this
        go_wp2
        go_ret
        exact ⟨_, _, rfl, hbel, Cells.of_row (hrow.congr fun i hi => by simp [hi])⟩

set_option maxHeartbeats 400000 in
theorem clone14 (a : Option Addr) (n c : Nat) (S : Nat → Int) (w : World) (hn : n ≤ 4096) (hnil : a = none → n = 0) (hS : Cells w a n (fun i => .int .i64 (S i))) :
    Calls Try.prog 14 #[.slice a n c] w fun e w' => Copied w w' e n (fun i => .int .i64 (S i)) := by
  have q26 : ∀ (w : World) (a : Option Addr) (n c n' c' : Nat), (binOp .eql 26 (.slice a n c) (.slice none n' c')).run Try.prog w = .ok (.bool a.isNone) w := fun w a n c n' c' => Lib.run_eql_slice_nil w _ _ a n c n' c' Try.underlying26
  have hmk := run_make_row' (P := Try.prog) 26 3 (.int .i64 0) 8 Try.underlying26 info3 rfl .i64 .i64 n (by omega) (by omega)
  cases a with
  | none =>
    obtain rfl := hnil rfl
    go_enter Try.func14, Try.ntmps14
    go_wp2
    go_ret
    exact ⟨none, 0, rfl, Below.refl _ _, hS⟩
  | some a =>
    go_enter Try.func14, Try.ntmps14
    go_wp2
    go_loopw [4] (fun i wr => ∃ k : Nat, k ≤ n ∧ i = .int .i64 k ∧ wr.rowIs w.heap.size 3 n (fun i => if i < k then .int .i64 (S i) else .int .i64 0) ∧ Below w.heap.size w wr) (fun i _ => n - (intOf i).toNat)
    case atStart => exact ⟨0, Nat.zero_le _, rfl, (World.rowIs_made _ _ _ _).congr (fun i _ => by simp), (Below.refl _ _).alloc (Nat.le_refl _) _⟩
    case round =>
      obtain ⟨k, hk, rfl, hrow, hbel⟩ := hrel
      by_cases hlt : k < n
      · obtain ⟨b, off, ha, hc⟩ := hS (by omega)
        obtain rfl := Option.some.inj ha
        have hbl := World.block_lt_of_cell? w _ (hc k hlt)
        have g1 : wr.cell? ⟨b, off + k, none⟩ = some (.int .i64 (S k)) := (hbel.cell hbl).trans (hc k hlt)
        have g2 := hrow.cell hlt
        have g3 := hrow.frozen k
        have hne : ¬ w.heap.size = b := by simp at hbl; omega
        have R1 := copy_step hrow
        have R2 := hbel.setCell (p := ⟨w.heap.size, k, none⟩) (Nat.le_refl _) (.int .i64 (S k))
        have R : Hid ((wr.setCell ⟨w.heap.size, k, none⟩ (.int .i64 (S k))).rowIs w.heap.size 3 n (fun i => if i < k + 1 then .int .i64 (S i) else .int .i64 0) ∧ Below w.heap.size w (wr.setCell ⟨w.heap.size, k, none⟩ (.int .i64 (S k)))) := ⟨R1, R2⟩
        simp at g2
        clear R1 R2 hc hbel hrow hmk q26 hS
        go_wp2
        go_roundw
        case rel => exact ⟨k + 1, by omega, by go_num, R.out.1, R.out.2⟩
        case measure => simp [intOf]; omega
      · have : k = n := by omega
        subst this
        go_wp2
        go_ret
        exact ⟨_, _, rfl, hbel, Cells.of_row (hrow.congr fun i hi => by simp [hi])⟩

set_option maxHeartbeats 400000 in
theorem clone15 (a : Option Addr) (n c : Nat) (S : Nat → Int) (w : World) (hn : n ≤ 65536) (hnil : a = none → n = 0) (hS : Cells w a n (fun i => .int .u8 (S i))) :
    Calls Try.prog 15 #[.slice a n c] w fun e w' => Copied w w' e n (fun i => .int .u8 (S i)) := by
  have q28 : ∀ (w : World) (a : Option Addr) (n c n' c' : Nat), (binOp .eql 28 (.slice a n c) (.slice none n' c')).run Try.prog w = .ok (.bool a.isNone) w := fun w a n c n' c' => Lib.run_eql_slice_nil w _ _ a n c n' c' Try.underlying28
  have hmk := run_make_row' (P := Try.prog) 28 5 (.int .u8 0) 1 Try.underlying28 info5 rfl .i64 .i64 n (by omega) (by omega)
  cases a with
  | none =>
    obtain rfl := hnil rfl
    go_enter Try.func15, Try.ntmps15
    go_wp2
    go_ret
    exact ⟨none, 0, rfl, Below.refl _ _, hS⟩
  | some a =>
    go_enter Try.func15, Try.ntmps15
    go_wp2
    go_loopw [4] (fun i wr => ∃ k : Nat, k ≤ n ∧ i = .int .i64 k ∧ wr.rowIs w.heap.size 5 n (fun i => if i < k then .int .u8 (S i) else .int .u8 0) ∧ Below w.heap.size w wr) (fun i _ => n - (intOf i).toNat)
    case atStart => exact ⟨0, Nat.zero_le _, rfl, (World.rowIs_made _ _ _ _).congr (fun i _ => by simp), (Below.refl _ _).alloc (Nat.le_refl _) _⟩
    case round =>
      obtain ⟨k, hk, rfl, hrow, hbel⟩ := hrel
      by_cases hlt : k < n
      · obtain ⟨b, off, ha, hc⟩ := hS (by omega)
        obtain rfl := Option.some.inj ha
        have hbl := World.block_lt_of_cell? w _ (hc k hlt)
        have g1 : wr.cell? ⟨b, off + k, none⟩ = some (.int .u8 (S k)) := (hbel.cell hbl).trans (hc k hlt)
        have g2 := hrow.cell hlt
        have g3 := hrow.frozen k
        have hne : ¬ w.heap.size = b := by simp at hbl; omega
        have R1 := copy_step hrow
        have R2 := hbel.setCell (p := ⟨w.heap.size, k, none⟩) (Nat.le_refl _) (.int .u8 (S k))
        have R : Hid ((wr.setCell ⟨w.heap.size, k, none⟩ (.int .u8 (S k))).rowIs w.heap.size 5 n (fun i => if i < k + 1 then .int .u8 (S i) else .int .u8 0) ∧ Below w.heap.size w (wr.setCell ⟨w.heap.size, k, none⟩ (.int .u8 (S k)))) := ⟨R1, R2⟩
        simp at g2
        clear R1 R2 hc hbel hrow hmk q28 hS
        go_wp2
        go_roundw
        case rel => exact ⟨k + 1, by omega, by go_num, R.out.1, R.out.2⟩
        case measure => simp [intOf]; omega
      · have : k = n := by omega
        subst this
        go_wp2
        go_ret
        exact ⟨_, _, rfl, hbel, Cells.of_row (hrow.congr fun i hi => by simp [hi])⟩

end Go.Proofs.Qxb6605298a
