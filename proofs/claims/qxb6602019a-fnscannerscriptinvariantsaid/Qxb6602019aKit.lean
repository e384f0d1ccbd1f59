/-
  Small words of this seat: the cells of a slice; the first place where a byte ends the walk; a scanner's struct in memory.
-/
import Derived.Test.Qxb6602019aRows
import Derived.WalkKit
import Derived.WalkSpells
import Derived.WalkLawsBesides
import Derived.Deep.OwnRows
namespace Go.Proofs.Qxb6602019a
open Go.RowKit

/-- THE n ELEMENTS OF A SLICE AT ADDRESS a, one cell each: cell j of them holds 'f j'. Of an empty slice nothing is said. -/
def Cells (w : World) (a : Option Addr) (n : Nat) (f : Nat → Value) : Prop :=
  0 < n → ∃ b off, a = some ⟨b, off, none⟩ ∧ ∀ i, i < n → w.cell? ⟨b, off + i, none⟩ = some (f i)

theorem Cells.later {w w' : World} {a : Option Addr} {n : Nat} {f : Nat → Value} (h : Cells w a n f) (hb : Below w.heap.size w w') : Cells w' a n f := by
  intro hn
  obtain ⟨b, off, ha, hc⟩ := h hn
  refine ⟨b, off, ha, fun i hi => ?_⟩
  rw [hb.cell (World.block_lt_of_cell? w _ (hc i hi))]
  exact hc i hi

theorem Cells.of_row {w : World} {b : Nat} {t : TypeId} {n : Nat} {f : Nat → Value} (h : w.rowIs b t n f) : Cells w (some ⟨b, 0, none⟩) n f :=
  fun _ => ⟨b, 0, rfl, fun i hi => by simpa using h.cell hi⟩

theorem Cells.mono {w : World} {a : Option Addr} {n m : Nat} {f : Nat → Value} (h : Cells w a n f) (hm : m ≤ n) : Cells w a m f := by
  intro h0
  obtain ⟨b, off, ha, hc⟩ := h (by omega)
  exact ⟨b, off, ha, fun i hi => hc i (by omega)⟩

theorem below_all {w w' w'' : World} (h : Below w.heap.size w w') (k : Below w'.heap.size w' w'') : Below w.heap.size w w'' :=
  h.trans (k.mono h.size)

theorem below_drewN (B : Nat) (w : World) (m : Nat) : Below B w (w.drewN m) := ⟨rfl, rfl, rfl, Nat.le_refl _, fun _ _ => rfl⟩

/-- It returned a bool. -/
def IsBool (e : Ending) : Prop := ∃ b, e = .returned (.bool b)

/-- THE FIRST PLACE FROM x ON, of the n places, AT WHICH p HOLDS; n where there is none. -/
def Stop (p : Int → Bool) (B : Nat → Int) (n x e : Nat) : Prop :=
  x ≤ e ∧ e ≤ n ∧ (∀ i, x ≤ i → i < e → p (B i) = false) ∧ (e = n ∨ p (B e) = true)

theorem stop_ex (p : Int → Bool) (B : Nat → Int) (n : Nat) : ∀ d x, x ≤ n → n - x = d → ∃ e, Stop p B n x e := by
  intro d
  induction d with
  | zero => exact fun x hx hd => ⟨x, Nat.le_refl _, hx, fun i h1 h2 => absurd h1 (by omega), .inl (by omega)⟩
  | succ d ih =>
    intro x hx hd
    cases h : p (B x) with
    | true => exact ⟨x, Nat.le_refl _, hx, fun i h1 h2 => absurd h1 (by omega), .inr h⟩
    | false =>
      obtain ⟨e, h1, h2, h3, h4⟩ := ih (x + 1) (by omega) (by omega)
      refine ⟨e, by omega, h2, fun i hi hj => ?_, h4⟩
      by_cases q : i = x
      · subst q; exact h
      · exact h3 i (by omega) hj

theorem Stop.ex (p : Int → Bool) (B : Nat → Int) {n x : Nat} (hx : x ≤ n) : ∃ e, Stop p B n x e := stop_ex p B n _ x hx rfl

/-- Cut right where the walk stopped, it stops there. -/
theorem Stop.cut {p : Int → Bool} {B : Nat → Int} {n x e : Nat} (h : Stop p B n x e) : Stop p B e x e :=
  ⟨h.1, Nat.le_refl _, h.2.2.1, .inl rfl⟩

def sp (v : Int) : Bool := v == 32 || v == 9 || v == 10 || v == 13
def notSp (v : Int) : Bool := !(sp v)
def delim (v : Int) : Bool := v == 44 || v == 93 || v == 125 || sp v
def notDig (v : Int) : Bool := !(decide (48 ≤ v) && decide (v ≤ 57))

/-- Block b is a scanner's struct. -/
def SC (w : World) (b : Nat) (a : Option Addr) (n c : Nat) (x : Int) (d : Bool) : Prop :=
  w.heap[b]? = some (.cells #[.slice a n c, .int .i64 x, .bool d, .slice none 0 0] 37 (0, 0))

section
variable {w : World} {b n c : Nat} {a : Option Addr} {x : Int} {d : Bool}
theorem SC.cells (H : SC w b a n c x d) : w.cell? ⟨b, 0, none⟩ = some (.slice a n c) ∧ w.cell? ⟨b, 1, none⟩ = some (.int .i64 x) ∧ w.cell? ⟨b, 2, none⟩ = some (.bool d) := by
  unfold SC at H
  refine ⟨?_, ?_, ?_⟩ <;> (rw [cell_of_row w b _ _ 37 (0, 0) H]; rfl)
theorem SC.frozen (H : SC w b a n c x d) (i : Nat) : w.frozen? ⟨b, i, none⟩ = false := frozen_of_row w b i _ 37 H
theorem SC.lt (H : SC w b a n c x d) : b < w.heap.size := (Array.getElem?_eq_some_iff.1 H).1
theorem SC.of_block {w' : World} (H : SC w b a n c x d) (e : w'.heap[b]? = w.heap[b]?) : SC w' b a n c x d := e.trans H
theorem SC.later {w' : World} (H : SC w b a n c x d) (e : Below w.heap.size w w') : SC w' b a n c x d := H.of_block (e.block _ H.lt)
theorem SC.drewN (H : SC w b a n c x d) (q : Nat) : SC (w.drewN q) b a n c x d := H.of_block rfl
theorem SC.drew (H : SC w b a n c x d) : SC w.drew b a n c x d := H
theorem SC.set1 (H : SC w b a n c x d) (y : Int) : SC (w.setCell ⟨b, 1, none⟩ (.int .i64 y)) b a n c y d := by
  have := heap_setCell_same w b 1 _ 37 (.int .i64 y) H
  exact this
theorem SC.set2 (H : SC w b a n c x d) (y : Bool) : SC (w.setCell ⟨b, 2, none⟩ (.bool y)) b a n c x y := by
  have := heap_setCell_same w b 2 _ 37 (.bool y) H
  exact this
end

theorem info5 : (Try.prog.info? 5).map (fun i => (i.zero, i.size, i.bytes)) = some (some (.int .u8 0), 1, 1) := by kernel_rfl

end Go.Proofs.Qxb6602019a
