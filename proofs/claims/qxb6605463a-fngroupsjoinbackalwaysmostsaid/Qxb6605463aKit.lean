/-
  Small words of this seat: a slice's cells read through whatever address; an own row of strings.
-/
import Derived.Test.Qxb6605463aRows
import Derived.WalkKit
import Derived.WalkSpells
import Derived.WalkLawsBesides
import Derived.Deep.OwnRows
namespace Go.Proofs.Qxb6605463a
open Go.RowKit

/-- THE n ELEMENTS OF A SLICE AT ADDRESS a, one cell each: cell j of them holds 'f j'. Of an empty slice nothing is said. -/
def Cells (w : World) (a : Option Addr) (n : Nat) (f : Nat → Value) : Prop :=
  0 < n → ∃ b off, a = some ⟨b, off, none⟩ ∧ ∀ i, i < n → w.cell? ⟨b, off + i, none⟩ = some (f i)

theorem Cells.later {w w' : World} {a : Option Addr} {n : Nat} {f : Nat → Value} (h : Cells w a n f) (hb : Below w.heap.size w w') : Cells w' a n f := by
  intro hn
  obtain ⟨b, off, ha, hc⟩ := h hn
  refine ⟨b, off, ha, fun i hi => ?_⟩
  rw [hb.cell (World.block_lt_of_cell? w _ (hc i hi))]
  exact hc i hi

theorem below_all {w w' w'' : World} (h : Below w.heap.size w w') (k : Below w'.heap.size w' w'') : Below w.heap.size w w'' :=
  h.trans (k.mono h.size)

theorem below_drewN (w : World) (m : Nat) : Below w.heap.size w (w.drewN m) := ⟨rfl, rfl, rfl, Nat.le_refl _, fun _ _ => rfl⟩

/-- It returned a bool. -/
def IsBool (e : Ending) : Prop := ∃ b, e = .returned (.bool b)

/-- What is behind a call that hands back a slice of n strings. -/
def Strs (w w' : World) (e : Ending) (n : Nat) (S : Nat → ByteArray) : Prop :=
  ∃ a c, e = .returned (.slice a n c) ∧ Below w.heap.size w w' ∧ Cells w' a n (fun i => .string (S i))

/-- Block g is a row of strings of at least n cells, none frozen, the first n holding S 0, .., S (n - 1). -/
def Row (w : World) (g n : Nat) (S : Nat → ByteArray) : Prop :=
  ∃ cur : Array Value, w.heap[g]? = some (.cells cur 9 (0, 0)) ∧ n ≤ cur.size ∧ ∀ i, i < n → cur[i]? = some (.string (S i))

theorem Row.cell {w : World} {g n : Nat} {S : Nat → ByteArray} (h : Row w g n S) {i : Nat} (hi : i < n) : w.cell? ⟨g, i, none⟩ = some (.string (S i)) := by
  obtain ⟨cur, hg, _, hc⟩ := h
  rw [cell_of_row w g i cur 9 (0, 0) hg]
  exact hc i hi

theorem Row.frozen {w : World} {g n : Nat} {S : Nat → ByteArray} (h : Row w g n S) (i : Nat) : w.frozen? ⟨g, i, none⟩ = false := by
  obtain ⟨cur, hg, _, _⟩ := h
  exact frozen_of_row w g i cur 9 hg

theorem Row.congr {w : World} {g n : Nat} {S T : Nat → ByteArray} (h : Row w g n S) (e : ∀ i, i < n → S i = T i) : Row w g n T := by
  obtain ⟨cur, hg, hn, hc⟩ := h
  exact ⟨cur, hg, hn, fun i hi => by rw [hc i hi, e i hi]⟩

theorem Row.drew {w : World} {g n : Nat} {S : Nat → ByteArray} (h : Row w g n S) : Row w.drew g n S := h

theorem Row.set {w : World} {g n : Nat} {S : Nat → ByteArray} (h : Row w g n S) (i : Nat) (s : ByteArray) : Row (w.setCell ⟨g, i, none⟩ (.string s)) g n (fun j => if j = i then s else S j) := by
  obtain ⟨cur, hg, hn, hc⟩ := h
  refine ⟨cur.setIfInBounds i (.string s), heap_setCell_same w g i cur 9 _ hg, by simpa using hn, fun j hj => ?_⟩
  rw [Array.getElem?_setIfInBounds]
  by_cases e : i = j
  · subst e
    rw [if_pos rfl, if_pos (by omega)]
    simp
  · rw [if_neg e, hc j hj]
    simp [show ¬ j = i by omega]

theorem Row.cells {w : World} {g n : Nat} {S : Nat → ByteArray} (h : Row w g n S) : Cells w (some ⟨g, 0, none⟩) n (fun i => .string (S i)) :=
  fun _ => ⟨g, 0, rfl, fun i hi => by simpa using h.cell hi⟩

/-- Out of the laws on append: a slice that owns at least one string. -/
theorem Row.of_owns {w : World} {base : Nat} {v : Value} {n : Nat} {xs : List Value} {S : Nat → ByteArray} (h : w.ownsRow base 9 1 v n xs) (hn : 0 < n) (hx : xs = (List.range n).map fun i => .string (S i)) :
    ∃ g cap, v = .slice (some ⟨g, 0, none⟩) n cap ∧ base ≤ g ∧ g < w.heap.size ∧ Row w g n S := by
  rcases h.2 with ⟨_, e⟩ | ⟨g, cap, cur, rfl, hb, hg, hnc, hcm, hcs, htake⟩
  · omega
  · refine ⟨g, cap, rfl, hb, (Array.getElem?_eq_some_iff.1 hg).1, cur, hg, by omega, fun i hi => ?_⟩
    have e : xs[i]? = some (.string (S i)) := by rw [hx]; simp [hi]
    rw [← htake, List.getElem?_take, if_pos (by omega)] at e
    simpa using e

theorem info9 : (Try.prog.info? 9).map (fun i => (i.zero, i.size, i.bytes)) = some (some (.string ⟨#[]⟩), 1, 16) := by kernel_rfl
theorem info5 : (Try.prog.info? 5).map (fun i => (i.zero, i.size, i.bytes)) = some (some (.int .u8 0), 1, 1) := by kernel_rfl

end Go.Proofs.Qxb6605463a
