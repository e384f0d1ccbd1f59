/-
  The small functions: isSpace, zzIsJSONSpace, the bounds on total length, zzCloneBytes, digits.
-/
import Derived.Test.Qxb6602019aKit
import Derived.Deep.QuietTactic
import Derived.BigQuiet
import Derived.RegionTactic
import Derived.BigRegion
namespace Go.Proofs.Qxb6602019a
open Go.RowKit

theorem isSpace26 (v : Int) (w : World) : Calls Try.prog 26 #[.int .u8 v] w fun e w' => e = .returned (.bool (sp v)) ∧ w = w' := by
  have hs : sp v = (v == 32 || v == 9 || v == 10 || v == 13) := rfl
  rw [hs]
  clear hs
  cases h1 : v == 32 <;> cases h2 : v == 9 <;> cases h3 : v == 10 <;> cases h4 : v == 13
  all_goals
    go_enter Try.func26, Try.ntmps26
    go_wp2
    go_ret
    exact ⟨rfl, rfl⟩

theorem isSpace11 (v : Int) (w : World) : Calls Try.prog 11 #[.int .u8 v] w fun e w' => e = .returned (.bool (sp v)) ∧ w = w' := by
  have hs : sp v = (v == 32 || v == 9 || v == 10 || v == 13) := rfl
  rw [hs]
  clear hs
  cases h1 : v == 32 <;> cases h2 : v == 9 <;> cases h3 : v == 10 <;> cases h4 : v == 13
  all_goals
    go_enter Try.func11, Try.ntmps11
    go_wp2
    go_ret
    exact ⟨rfl, rfl⟩

theorem bytes18 (a : Option Addr) (n c : Nat) (x : Int) (w : World) :
    Calls Try.prog 18 #[.slice a n c, .int .i64 x] w fun e w' => IsBool e ∧ w = w' := by
  go_enter Try.func18, Try.ntmps18
  go_wp2
  all_goals
    go_ret
    exact ⟨⟨_, rfl⟩, rfl⟩

theorem bytes19 (a a1 : Option Addr) (n c n1 c1 : Nat) (w : World) :
    Calls Try.prog 19 #[.slice a n c, .slice a1 n1 c1] w fun e w' => IsBool e ∧ w = w' := by
  go_enter Try.func19, Try.ntmps19
  go_wp2
  all_goals
    go_ret
    exact ⟨⟨_, rfl⟩, rfl⟩

set_option maxHeartbeats 1000000 in
theorem clone9 (a : Option Addr) (n c : Nat) (B : Nat → Int) (w : World) (hn : n ≤ 1048576) (hS : Cells w a n (fun i => .int .u8 (B i))) :
    Calls Try.prog 9 #[.slice a n c] w fun e w' => ∃ a' c', e = .returned (.slice a' n c') ∧ Below w.heap.size w w' ∧ n ≤ c' ∧ Cells w' a' n (fun i => .int .u8 (B i)) := by
  have q22 : ∀ (w : World) (a : Option Addr) (n c n' c' : Nat), (binOp .eql 22 (.slice a n c) (.slice none n' c')).run Try.prog w = .ok (.bool a.isNone) w := fun w a n c n' c' => Lib.run_eql_slice_nil w _ _ a n c n' c' Try.underlying22
  have hmk := run_make_row' (P := Try.prog) 22 5 (.int .u8 0) 1 Try.underlying22 info5 rfl .i64 .i64 n (by omega) (by omega)
  cases a with
  | none =>
    have hn0 : n = 0 := by
      by_cases h : 0 < n
      · obtain ⟨b, off, e, _⟩ := hS h
        cases e
      · omega
    subst hn0
    go_enter Try.func9, Try.ntmps9
    go_wp2
    go_ret
    exact ⟨none, 0, rfl, Below.refl _ _, Nat.le_refl _, fun h => absurd h (by omega)⟩
  | some a =>
    go_enter Try.func9, Try.ntmps9
    go_wp2
    go_loopw [4] (fun i wr => ∃ (k : Nat), k ≤ n ∧ i = .int .i64 k ∧ wr.rowIs w.heap.size 5 n (fun i => if i < k then .int .u8 (B i) else .int .u8 0) ∧ Below w.heap.size w wr) (fun i _ => n - (intOf i).toNat)
    case atStart => exact ⟨0, Nat.zero_le _, rfl, (World.rowIs_made _ _ _ _).congr (fun i _ => by simp), (Below.refl _ _).alloc (Nat.le_refl _) _⟩
    case round =>
      obtain ⟨k, hk, rfl, hrow, hbel⟩ := hrel
      by_cases hlt : k < n
      · obtain ⟨b, off, ha, hc⟩ := hS (by omega)
        obtain rfl := Option.some.inj ha
        have hbl := World.block_lt_of_cell? w _ (hc k hlt)
        have g1 : wr.cell? ⟨b, off + k, none⟩ = some (.int .u8 (B k)) := (hbel.cell hbl).trans (hc k hlt)
        have g2 := hrow.cell hlt
        have g3 := hrow.frozen k
        simp at g2
        have R1 : Hid ((wr.setCell ⟨w.heap.size, k, none⟩ (.int .u8 (B k))).rowIs w.heap.size 5 n (fun i => if i < k + 1 then .int .u8 (B i) else .int .u8 0)) := by
          refine (hrow.set k (.int .u8 (B k))).congr fun i _ => ?_
          by_cases e : i = k
          · subst e; simp
          · by_cases l : i < k
            · simp [e, l, show i < k + 1 by omega]
            · simp [e, l, show ¬ i < k + 1 by omega]
        have R2 : Hid (Below w.heap.size w wr) := hbel
        clear hc hS hrow hbel hmk q22 hbl
        go_wp2
        go_roundw
        case rel => exact ⟨k + 1, by omega, by go_num, R1.out, R2.out.setCell (Nat.le_refl _) _⟩
        case measure => simp [intOf]; omega
      · have : k = n := by omega
        subst this
        go_wp2
        go_ret
        exact ⟨_, _, rfl, hbel, Nat.le_refl _, Cells.of_row (hrow.congr fun i hi => by simp [hi])⟩

/-- x[l:] of a slice of bytes: r bytes are left. -/
theorem cut_l (a : Option Addr) (m c l r : Nat) (x : Int) (hx : x = (l : Int)) (hr : r + l = m) (hmc : m ≤ c) : ∃ a' c', (∀ w, (Instr.slice 22 (.slice a m c) (some (.int .i64 x)) none none).run Try.prog w = .ok (.slice a' r c') w) ∧
    r ≤ c' ∧ ∀ w F, Cells w a m F → Cells w a' r (fun i => F (l + i)) := by
  subst hx
  refine ⟨if c = l then a else a.map (·.add l), c - l, fun w => ?_, by omega, fun w F hc h0 => ?_⟩
  · rw [run_slice_l w 22 a m c Try.underlying22 .i64 (l : Int) (by omega) (by omega)]
    simp [go_sem, sliced]
    omega
  · obtain ⟨b, off, rfl, hcc⟩ := hc (by omega)
    refine ⟨b, off + l, ?_, fun i hi => ?_⟩
    · rw [if_neg (by omega)]
      simp [Addr.add_lit]
    · rw [Nat.add_assoc]
      exact hcc _ (by omega)

/-- x[:h] of a slice of bytes. -/
theorem cut_h (a : Option Addr) (m c h : Nat) (x : Int) (hx : x = (h : Int)) (hl : h ≤ m) (hmc : m ≤ c) : ∃ a' c', (∀ w, (Instr.slice 22 (.slice a m c) none (some (.int .i64 x)) none).run Try.prog w = .ok (.slice a' h c') w) ∧
    h ≤ c' ∧ ∀ w F, Cells w a m F → Cells w a' h F := by
  subst hx
  refine ⟨if c = 0 then a else a.map (·.add 0), c, fun w => ?_, by omega, fun w F hc h0 => ?_⟩
  · rw [run_slice_h w 22 a m c Try.underlying22 .i64 (h : Int) (by omega) (by omega)]
    simp [go_sem, sliced]
  · obtain ⟨b, off, rfl, hcc⟩ := hc (by omega)
    refine ⟨b, off, ?_, fun i hi => hcc _ (by omega)⟩
    rw [if_neg (by omega)]
    simp [Addr.add_lit]

/-- x[l:h] of a slice of bytes: r bytes. -/
theorem cut_lh (a : Option Addr) (m c l h r : Nat) (hr : r + l = h) (hh : h ≤ m) (hmc : m ≤ c) : ∃ a' c', (∀ w, (Instr.slice 22 (.slice a m c) (some (.int .i64 (l : Int))) (some (.int .i64 (h : Int))) none).run Try.prog w = .ok (.slice a' r c') w) ∧
    r ≤ c' ∧ ∀ w F, Cells w a m F → Cells w a' r (fun i => F (l + i)) := by
  refine ⟨if c = l then a else a.map (·.add l), c - l, fun w => ?_, by omega, fun w F hc h0 => ?_⟩
  · rw [run_slice_lh w 22 a m c Try.underlying22 .i64 .i64 (l : Int) (h : Int) (by omega) (by omega) (by omega)]
    simp [go_sem, sliced]
    omega
  · obtain ⟨b, off, rfl, hcc⟩ := hc (by omega)
    refine ⟨b, off + l, ?_, fun i hi => ?_⟩
    · rw [if_neg (by omega)]
      simp [Addr.add_lit]
    · rw [Nat.add_assoc]
      exact hcc _ (by omega)

theorem results_tmp5 {fn : Func} {t u v x y : Tmp} (h : fn.results = #[.tmp t, .tmp u, .tmp v, .tmp x, .tmp y]) (tmps : Array Value) (P : Program) (w : World) :
    (results fn tmps).run P w = .ok (.tuple #[tmps.getD t undef, tmps.getD u undef, tmps.getD v undef, tmps.getD x undef, tmps.getD y undef]) w := by
  simp [results, h]

end Go.Proofs.Qxb6602019a
