/-
  ZZNewTomlStruct.
-/
import Derived.Test.Qxb6605298aClones
import Derived.Deep.RegionHeld3
namespace Go.Proofs.Qxb6605298a
open Go.RowKit

theorem info45 : (Try.prog.info? 45).map (fun i => (i.zero, i.size, i.bytes)) = some (some (.agg #[.string ⟨#[]⟩, .int .u64 0, .int .i64 0, .int .i64 0, .pointer none]), 5, 48) := by kernel_rfl

theorem run_make_keys (n : Nat) (hn : n ≤ 4096) (w : World) :
    (Instr.makeSlice 42 (.int .i64 (n : Int)) (.int .i64 (n : Int))).run Try.prog w = .ok (.slice (some ⟨w.heap.size, 0, none⟩) n n) (w.alloc (.cells (madeCells #[.string ⟨#[]⟩, .int .u64 0, .int .i64 0, .int .i64 0, .pointer none] (n * 5)) 45)) := by
  obtain ⟨i, hi, hz, hs, hb⟩ := info_parts info45
  have hr := run_make (P := Try.prog) w 42 45 i _ Try.underlying42 hi hz .i64 .i64 n n (by omega) (Int.le_refl _) (by rw [hb]; omega) (by omega)
  simpa only [Int.toNat_natCast, hs, Value.cells] using hr

/-- The keys that are laid so far: key i's name, bit, field and kind. -/
def Keys (f : Nat → Value) (k : Nat) (S : Nat → ByteArray) (B F K : Nat → Int) : Prop :=
  ∀ i, i < k → f (i * 5) = .string (S i) ∧ f (i * 5 + 1) = .int .u64 (B i) ∧ f (i * 5 + 2) = .int .i64 (F i) ∧ f (i * 5 + 3) = .int .i64 (K i)

theorem keys_step {wr : World} {b m k : Nat} {f : Nat → Value} {S : Nat → ByteArray} {B F K : Nat → Int} (h : wr.rowIs b 45 m f) (hk : Keys f k S B F K) :
    ∃ g, (((((wr.setCell ⟨b, k * 5, none⟩ (.string (S k))).setCell ⟨b, k * 5 + 1, none⟩ (.int .u64 (B k))).setCell ⟨b, k * 5 + 2, none⟩ (.int .i64 (F k))).setCell ⟨b, k * 5 + 3, none⟩ (.int .i64 (K k))).setCell ⟨b, k * 5 + 4, none⟩ (.pointer none)).rowIs b 45 m g ∧ Keys g (k + 1) S B F K := by
  refine ⟨_, ((((h.set (k * 5) _).set (k * 5 + 1) _).set (k * 5 + 2) _).set (k * 5 + 3) _).set (k * 5 + 4) _, fun i hi => ?_⟩
  by_cases e : i = k
  · subst e
    refine ⟨?_, ?_, ?_, ?_⟩
    · rw [if_neg (by omega), if_neg (by omega), if_neg (by omega), if_neg (by omega), if_pos rfl]
    · rw [if_neg (by omega), if_neg (by omega), if_neg (by omega), if_pos rfl]
    · rw [if_neg (by omega), if_neg (by omega), if_pos rfl]
    · rw [if_neg (by omega), if_pos rfl]
  · obtain ⟨q0, q1, q2, q3⟩ := hk i (by omega)
    refine ⟨?_, ?_, ?_, ?_⟩
    · rw [if_neg (by omega), if_neg (by omega), if_neg (by omega), if_neg (by omega), if_neg (by omega)]; exact q0
    · rw [if_neg (by omega), if_neg (by omega), if_neg (by omega), if_neg (by omega), if_neg (by omega)]; exact q1
    · rw [if_neg (by omega), if_neg (by omega), if_neg (by omega), if_neg (by omega), if_neg (by omega)]; exact q2
    · rw [if_neg (by omega), if_neg (by omega), if_neg (by omega), if_neg (by omega), if_neg (by omega)]; exact q3

/-- A struct as the maker lays it: its key list lies at block bk. -/
structure Made (w : World) (bs bk n : Nat) (S : Nat → ByteArray) (B F K : Nat → Int) : Prop where
  head : w.cell? ⟨bs, 0, none⟩ = some (.slice (some ⟨bk, 0, none⟩) n n)
  name : ∀ i, i < n → w.cell? ⟨bk, i * 5, none⟩ = some (.string (S i))
  bit : ∀ i, i < n → w.cell? ⟨bk, i * 5 + 1, none⟩ = some (.int .u64 (B i))
  field : ∀ i, i < n → w.cell? ⟨bk, i * 5 + 2, none⟩ = some (.int .i64 (F i))
  kind : ∀ i, i < n → w.cell? ⟨bk, i * 5 + 3, none⟩ = some (.int .i64 (K i))

theorem Made.later {w w' : World} {bs bk n : Nat} {S : Nat → ByteArray} {B F K : Nat → Int} (h : Made w bs bk n S B F K) (hb : Below w.heap.size w w') : Made w' bs bk n S B F K := by
  have up : ∀ {a : Addr} {v : Value}, w.cell? a = some v → w'.cell? a = some v := fun {a v} e => by rw [hb.cell (World.block_lt_of_cell? w _ e)]; exact e
  exact ⟨up h.head, fun i hi => up (h.name i hi), fun i hi => up (h.bit i hi), fun i hi => up (h.field i hi), fun i hi => up (h.kind i hi)⟩

theorem made_of {wr : World} {bk n : Nat} {f : Nat → Value} {S : Nat → ByteArray} {B F K : Nat → Int} {o : Obj} {v : Value} (h : wr.rowIs bk 45 (n * 5) f) (hk : Keys f n S B F K) (ho : o = .cells #[.slice (some ⟨bk, 0, none⟩) n n, v] 47) :
    Made (wr.alloc o) wr.heap.size bk n S B F K := by
  subst ho
  have h' := h.alloc (.cells #[.slice (some ⟨bk, 0, none⟩) n n, v] 47)
  refine ⟨?_, fun i hi => ?_, fun i hi => ?_, fun i hi => ?_, fun i hi => ?_⟩
  · rw [World.cell?, heap_alloc_new]; rfl
  · rw [h'.cell (by omega), (hk i hi).1]
  · rw [h'.cell (by omega), (hk i hi).2.1]
  · rw [h'.cell (by omega), (hk i hi).2.2.1]
  · rw [h'.cell (by omega), (hk i hi).2.2.2]

theorem made_row (n : Nat) (w : World) : ∃ f, (w.alloc (.cells (madeCells #[.string ⟨#[]⟩, .int .u64 0, .int .i64 0, .int .i64 0, .pointer none] (n * 5)) 45)).rowIs w.heap.size 45 (n * 5) f :=
  ⟨fun i => (madeCells #[.string ⟨#[]⟩, .int .u64 0, .int .i64 0, .int .i64 0, .pointer none] (n * 5))[i]!, _, heap_alloc_new _ _, size_madeCells _ _, fun i hi => by dsimp only; rw [getElem!_pos _ _ (by rw [size_madeCells]; exact hi)]; exact Array.getElem?_eq_getElem _⟩

set_option maxHeartbeats 1000000 in
theorem new16 (a0 a1 a2 a3 : Option Addr) (n c0 c1 c2 c3 : Nat) (S : Nat → ByteArray) (B F K : Nat → Int) (r : Int) (w : World) (hn : n ≤ 4096)
    (h0 : Cells w a0 n (fun i => .string (S i))) (h1 : Cells w a1 n (fun i => .int .u64 (B i))) (h2 : Cells w a2 n (fun i => .int .i64 (F i))) (h3 : Cells w a3 n (fun i => .int .i64 (K i))) :
    Calls Try.prog 16 #[.slice a0 n c0, .slice a1 n c1, .slice a2 n c2, .slice a3 n c3, .int .u64 r] w fun e w' => ∃ bs bk, e = .returned (.pointer (some ⟨bs, 0, none⟩)) ∧ Below w.heap.size w w' ∧ Made w' bs bk n S B F K := by
  have hmk := run_make_keys n hn
  go_enter Try.func16, Try.ntmps16
  go_wp2
  go_loopw [12] (fun i wr => ∃ k : Nat, k ≤ n ∧ i = .int .i64 k ∧ (∃ f, wr.rowIs w.heap.size 45 (n * 5) f ∧ Keys f k S B F K) ∧ Below w.heap.size w wr) (fun i _ => n - (intOf i).toNat)
  case atStart => obtain ⟨f, hf⟩ := made_row n w; exact ⟨0, Nat.zero_le _, rfl, ⟨f, hf, fun i hi => absurd hi (by omega)⟩, (Below.refl _ _).alloc (Nat.le_refl _) _⟩
  case round =>
    obtain ⟨k, hk, rfl, ⟨f, hrow, hkeys⟩, hbel⟩ := hrel
    by_cases hlt : k < n
    · obtain ⟨b0, o0, rfl, e0⟩ := h0 (by omega)
      obtain ⟨b1, o1, rfl, e1⟩ := h1 (by omega)
      obtain ⟨b2, o2, rfl, e2⟩ := h2 (by omega)
      obtain ⟨b3, o3, rfl, e3⟩ := h3 (by omega)
      have l0 := World.block_lt_of_cell? w _ (e0 k hlt)
      have l1 := World.block_lt_of_cell? w _ (e1 k hlt)
      have l2 := World.block_lt_of_cell? w _ (e2 k hlt)
      have l3 := World.block_lt_of_cell? w _ (e3 k hlt)
      have g0 : wr.cell? ⟨b0, o0 + k, none⟩ = some (.string (S k)) := (hbel.cell l0).trans (e0 k hlt)
      have g1 : wr.cell? ⟨b1, o1 + k, none⟩ = some (.int .u64 (B k)) := (hbel.cell l1).trans (e1 k hlt)
      have g2 : wr.cell? ⟨b2, o2 + k, none⟩ = some (.int .i64 (F k)) := (hbel.cell l2).trans (e2 k hlt)
      have g3 : wr.cell? ⟨b3, o3 + k, none⟩ = some (.int .i64 (K k)) := (hbel.cell l3).trans (e3 k hlt)
      have c0 := hrow.cell (i := k * 5) (by omega)
      have c1 := hrow.cell (i := k * 5 + 1) (by omega)
      have c2 := hrow.cell (i := k * 5 + 2) (by omega)
      have c3 := hrow.cell (i := k * 5 + 3) (by omega)
      have c4 := hrow.cell (i := k * 5 + 4) (by omega)
      have z0 := hrow.frozen (k * 5)
      have z1 := hrow.frozen (k * 5 + 1)
      have z2 := hrow.frozen (k * 5 + 2)
      have z3 := hrow.frozen (k * 5 + 3)
      have z4 := hrow.frozen (k * 5 + 4)
      have b00 : (0 : Int) ≤ (k : Int) := by omega
      have b01 : (k : Int) < (n : Int) := by omega
      have n0 : ¬ w.heap.size = b0 := by simp at l0; omega
      have n1 : ¬ w.heap.size = b1 := by simp at l1; omega
      have n2 : ¬ w.heap.size = b2 := by simp at l2; omega
      have n3 : ¬ w.heap.size = b3 := by simp at l3; omega
      have R : Hid (wr.rowIs w.heap.size 45 (n * 5) f ∧ Keys f k S B F K ∧ Below w.heap.size w wr) := ⟨hrow, hkeys, hbel⟩
      clear hkeys l0 l1 l2 l3
      clear e0 e1 e2 e3 h0 h1 h2 h3 hmk hbel hrow
      go_wp2
      go_region_held3 (fun w' => w'.cell? ⟨b0, o0 + k, none⟩ = some (.string (S k)) ∧ w'.cell? ⟨b1, o1 + k, none⟩ = some (.int .u64 (B k)) ∧ w'.cell? ⟨b2, o2 + k, none⟩ = some (.int .i64 (F k)) ∧ w'.cell? ⟨b3, o3 + k, none⟩ = some (.int .i64 (K k))) (go_keep) (fail)
      go_wp2
      go_roundw
      case rel =>
        obtain ⟨g, hg, hk'⟩ := keys_step R.out.1 R.out.2.1
        exact ⟨k + 1, by omega, by go_num, ⟨g, hg, hk'⟩, (((((R.out.2.2.setCell (Nat.le_refl _) _).setCell (Nat.le_refl _) _).setCell (Nat.le_refl _) _).setCell (Nat.le_refl _) _).setCell (Nat.le_refl _) _).drew⟩
      case measure => simp [intOf]; omega
    · have : k = n := by omega
      subst this
      go_wp2
      go_ret
      exact ⟨wr.heap.size, w.heap.size, rfl, hbel.alloc hbel.size _, made_of hrow hkeys rfl⟩

end Go.Proofs.Qxb6605298a
