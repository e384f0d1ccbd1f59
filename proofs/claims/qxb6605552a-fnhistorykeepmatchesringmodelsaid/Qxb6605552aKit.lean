/-
  Small words of this seat.
-/
import Derived.Test.Qxb6605552aRows
import Derived.WalkKit
import Derived.WalkSpells
import Derived.WalkLawsBesides
import Derived.Deep.OwnRows
import Derived.Test.Qxb6605552aPlain
namespace Go.Proofs.Qxb6605552a
open Go.RowKit

/-- THE n ELEMENTS OF A SLICE AT ADDRESS a, one cell each: cell j of them holds 'f j'. Of an empty slice nothing is said. -/
def Cells (w : World) (a : Option Addr) (n : Nat) (f : Nat → Value) : Prop :=
  0 < n → ∃ b off, a = some ⟨b, off, none⟩ ∧ ∀ i, i < n → w.cell? ⟨b, off + i, none⟩ = some (f i)

theorem Cells.later {w w' : World} {a : Option Addr} {n : Nat} {f : Nat → Value} (h : Cells w a n f) (hb : Below w.heap.size w w') : Cells w' a n f := by
  intro hn
  obtain ⟨b, off, ha, hc⟩ := h hn
  refine ⟨b, off, ha, fun i hi => ?_⟩
  rw [hb.cell (World.block_lt_of_cell? w _ (hc i hi))]
  exact hc i hi

theorem Cells.of_row {w : World} {b : Nat} {t : TypeId} {n : Nat} {f : Nat → Value} (h : w.rowIs b t n f) : Cells w (some ⟨b, 0, none⟩) n f :=
  fun _ => ⟨b, 0, rfl, fun i hi => by simpa using h.cell hi⟩

theorem Cells.congr {w : World} {a : Option Addr} {n : Nat} {f g : Nat → Value} (h : Cells w a n f) (e : ∀ i, i < n → f i = g i) : Cells w a n g := by
  intro hn
  obtain ⟨b, off, ha, hc⟩ := h hn
  exact ⟨b, off, ha, fun i hi => by rw [hc i hi, e i hi]⟩

theorem below_all {w w' w'' : World} (h : Below w.heap.size w w') (k : Below w'.heap.size w' w'') : Below w.heap.size w w'' :=
  h.trans (k.mono h.size)

theorem below_drewN (B : Nat) (w : World) (m : Nat) : Below B w (w.drewN m) := ⟨rfl, rfl, rfl, Nat.le_refl _, fun _ _ => rfl⟩

/-- It returned a bool. -/
def IsBool (e : Ending) : Prop := ∃ b, e = .returned (.bool b)

/-- A slice of bytes as a value: address, length, capacity. -/
abbrev Pay : Type := Option Addr × Nat × Nat
abbrev pv (t : Pay) : Value := .slice t.1 t.2.1 t.2.2
def nilPay : Pay := (none, 0, 0)

/-- The bytes of a slice are there to be read. -/
def PayOK (w : World) (t : Pay) : Prop := t.2.1 ≤ 1048576 ∧ ∃ B : Nat → Int, Cells w t.1 t.2.1 (fun i => .int .u8 (B i))

theorem PayOK.later {w w' : World} {t : Pay} (h : PayOK w t) (hb : Below w.heap.size w w') : PayOK w' t := by
  obtain ⟨h0, B, hc⟩ := h
  exact ⟨h0, B, hc.later hb⟩

theorem PayOK.nil (w : World) : PayOK w nilPay := ⟨by decide, fun _ => 0, fun h => absurd h (by decide)⟩

/-- A store into a row of other values leaves the bytes alone. -/
theorem PayOK.set {w : World} {t : Pay} (h : PayOK w t) {b : Nat} {ty : TypeId} {n : Nat} {f : Nat → Value} (hr : w.rowIs b ty n f) (hf : ∀ i, i < n → ∀ x, f i ≠ .int .u8 x) (j : Nat) (v : Value) : PayOK (w.setCell ⟨b, j, none⟩ v) t := by
  obtain ⟨h0, B, hc⟩ := h
  refine ⟨h0, B, fun hn => ?_⟩
  obtain ⟨b', off, ha, hcc⟩ := hc hn
  refine ⟨b', off, ha, fun i hi => ?_⟩
  have hne : b' ≠ b := by
    intro e
    subst e
    have hci := hcc i hi
    obtain ⟨c, hb, hs, hcf⟩ := hr
    rw [cell_of_row w b' (off + i) c ty (0, 0) hb] at hci
    have hlt : off + i < n := by
      have := (Array.getElem?_eq_some_iff.1 hci).1
      omega
    rw [hcf _ hlt] at hci
    exact hf _ hlt _ (Option.some.inj hci)
  have hbl : (w.setCell ⟨b, j, none⟩ v).heap[b']? = w.heap[b']? := Below.heap_setCell w ⟨b, j, none⟩ v b' hne
  rw [World.cell?_of_block (w := w) (a := ⟨b', off + i, none⟩) hbl]
  exact hcc i hi

theorem info21 : (Try.prog.info? 21).map (fun i => (i.zero, i.size, i.bytes)) = some (some (.int .i32 0), 1, 4) := by kernel_rfl
theorem info29 : (Try.prog.info? 29).map (fun i => (i.zero, i.size, i.bytes)) = some (some (.slice none 0 0), 1, 24) := by kernel_rfl
theorem info5 : (Try.prog.info? 5).map (fun i => (i.zero, i.size, i.bytes)) = some (some (.int .u8 0), 1, 1) := by kernel_rfl
theorem info4 : (Try.prog.info? 4).map (fun i => (i.zero, i.size, i.bytes)) = some (some (.bool false), 1, 1) := by kernel_rfl
theorem info44 : (Try.prog.info? 44).map (fun i => (i.zero, i.size, i.bytes)) = some (some (.agg #[.slice none 0 0, .int .i32 0]), 2, 32) := by kernel_rfl

/-- A mask by a power of two less one. -/
theorem bits_and_nat (a b : Nat) (ha : a < 9223372036854775808) (hb : b < 9223372036854775808) : bits .and .i64 (a : Int) (b : Int) = ((a &&& b : Nat) : Int) := by
  have hx : a &&& b < 2 ^ 63 := Nat.and_lt_two_pow _ (by omega)
  have h1 : (BitVec.ofInt 64 (a : Int)).toNat = a := by
    rw [BitVec.ofInt_natCast, BitVec.toNat_ofNat]; exact Nat.mod_eq_of_lt (by omega)
  have h2 : (BitVec.ofInt 64 (b : Int)).toNat = b := by
    rw [BitVec.ofInt_natCast, BitVec.toNat_ofNat]; exact Nat.mod_eq_of_lt (by omega)
  show IntKind.i64.wrap ((BitVec.ofInt 64 (a : Int) &&& BitVec.ofInt 64 (b : Int)).toNat : Int) = _
  rw [BitVec.toNat_and, h1, h2, IntKind.wrap_i64]
  omega

theorem mask (L : Nat) (x : Nat) (hL : 0 < L) (hp : ∃ k, L = 2 ^ k) (hx : x ≤ 1000000) (hl : L ≤ 1000000) : bits .and .i64 (x : Int) ((L : Int) - 1) = ((x % L : Nat) : Int) := by
  rw [show ((L : Int) - 1) = ((L - 1 : Nat) : Int) by omega, bits_and_nat x (L - 1) (by omega) (by omega), and_mask L x hp]
theorem mask2 (L : Nat) (x y : Nat) (hL : 0 < L) (hp : ∃ k, L = 2 ^ k) (hx : x + y ≤ 1000000) (hl : L ≤ 1000000) : bits .and .i64 ((x : Int) + (y : Int)) ((L : Int) - 1) = (((x + y) % L : Nat) : Int) := by
  rw [← Int.natCast_add]; exact mask L (x + y) hL hp hx hl

end Go.Proofs.Qxb6605552a
