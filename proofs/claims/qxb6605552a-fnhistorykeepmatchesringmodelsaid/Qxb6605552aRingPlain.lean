/-
  What lies at each place of the ring: plain functions of the index.
-/
import Derived.Test.Qxb6605552aKit
namespace Go.Proofs.Qxb6605552a
open Go.RowKit

/-- The position k in order, oldest first, the new one (x) last. -/
def pos {α : Type} (M : Nat → α) (x : α) (h L n k : Nat) : α := if k < n then M ((h + k) % L) else x

/-- The place s of the ring, base b, length L2: places below d are let go (z), up to n they hold the positions, beyond they are as they were. -/
def place {α : Type} (q orig : Nat → α) (z : α) (b L2 n d s : Nat) : α := if idx b L2 s < d then z else if idx b L2 s ≤ n then q (idx b L2 s) else orig s
/-- The place s ahead of the new position. -/
def place0 {α : Type} (q orig : Nat → α) (b L2 n s : Nat) : α := if idx b L2 s < n then q (idx b L2 s) else orig s

theorem place_new {α : Type} (q orig : Nat → α) (z : α) (b L2 n s : Nat) (hb : b < L2) (hn : n < L2) (hs : s < L2) :
    (if s = (b + n) % L2 then q n else place0 q orig b L2 n s) = place q orig z b L2 n 0 s := by
  unfold place place0
  rw [if_neg (show ¬ idx b L2 s < 0 by omega)]
  by_cases e : s = (b + n) % L2
  · subst e
    rw [if_pos rfl, idx_place b L2 n hb hn, if_pos (Nat.le_refl _)]
  · rw [if_neg e]
    have hne : idx b L2 s ≠ n := fun h => e (by rw [← h, place_idx b L2 s hb hs])
    by_cases h : idx b L2 s < n
    · rw [if_pos h, if_pos (by omega)]
    · rw [if_neg h, if_neg (by omega)]

theorem place_step {α : Type} (q orig : Nat → α) (z : α) (b L2 n j s : Nat) (hb : b < L2) (hj : j < L2) (hs : s < L2) :
    (if s = (b + j) % L2 then z else place q orig z b L2 n j s) = place q orig z b L2 n (j + 1) s := by
  unfold place
  by_cases e : s = (b + j) % L2
  · subst e
    rw [if_pos rfl, idx_place b L2 j hb hj, if_pos (by omega)]
  · rw [if_neg e]
    have hne : idx b L2 s ≠ j := fun h => e (by rw [← h, place_idx b L2 s hb hs])
    by_cases h : idx b L2 s < j
    · rw [if_pos h, if_pos (by omega)]
    · rw [if_neg h, if_neg (show ¬ idx b L2 s < j + 1 by omega)]

theorem place_at {α : Type} (q orig : Nat → α) (z : α) (b L2 n d j : Nat) (hb : b < L2) (hj : j < L2) (hd : d ≤ j) (hn : j ≤ n) : place q orig z b L2 n d ((b + j) % L2) = q j := by
  unfold place
  rw [idx_place b L2 j hb hj, if_neg (by omega), if_pos hn]

theorem place0_room {α : Type} (M : Nat → α) (x : α) (h L n s : Nat) (hh : h < L) (hs : s < L) : M s = place0 (pos M x h L n) M h L n s := by
  unfold place0 pos
  by_cases e : idx h L s < n
  · rw [if_pos e, if_pos e, place_idx h L s hh hs]
  · rw [if_neg e]

theorem idx_zero (L2 s : Nat) (hs : s < L2) : idx 0 L2 s = s := by
  unfold idx
  rw [Nat.sub_zero, Nat.add_mod_right, Nat.mod_eq_of_lt hs]

theorem place0_grown {α : Type} (q : Nat → α) (z : α) (L2 n s : Nat) (hs : s < L2) : (if s < n then q s else z) = place0 q (fun _ => z) 0 L2 n s := by
  unfold place0
  rw [idx_zero L2 s hs]

/-- first, j positions later. -/
def fst (f : Int) (j : Nat) : Int := (f + j) % 18446744073709551616

theorem fst_zero (f : Int) (h0 : 0 ≤ f) (h1 : f < 18446744073709551616) : fst f 0 = f := by unfold fst; omega
theorem fst_succ (f : Int) (j : Nat) : IntKind.u64.wrap (fst f j + 1) = fst f (j + 1) := by
  unfold fst
  rw [IntKind.wrap_u64]
  omega
theorem fst_bd (f : Int) (j : Nat) : 0 ≤ fst f j ∧ fst f j < 18446744073709551616 := by unfold fst; omega
theorem fst_add (f : Int) (j : Nat) (_hj : j ≤ 1000000) : IntKind.u64.wrap (f + IntKind.u64.wrap (j : Int)) = fst f j := by
  unfold fst
  rw [IntKind.wrap_u64, IntKind.wrap_u64]
  omega

/-- Nothing that was there has turned but blocks bs and br. -/
structure Wrote (bs br : Nat) (w w' : World) : Prop where
  os : w'.os = w.os
  tape : w'.tape = w.tape
  output : w'.output = w.output
  size : w.heap.size ≤ w'.heap.size
  block : ∀ k, k < w.heap.size → k ≠ bs → k ≠ br → w'.heap[k]? = w.heap[k]?

section
variable {bs br : Nat} {w w' : World}
theorem Wrote.refl (bs br : Nat) (w : World) : Wrote bs br w w := ⟨rfl, rfl, rfl, Nat.le_refl _, fun _ _ _ _ => rfl⟩
theorem Wrote.drewN (h : Wrote bs br w w') (q : Nat) : Wrote bs br w (w'.drewN q) := ⟨h.os, h.tape, h.output, h.size, h.block⟩
theorem Wrote.drew (h : Wrote bs br w w') : Wrote bs br w w'.drew := ⟨h.os, h.tape, h.output, h.size, h.block⟩
theorem Wrote.setCell (h : Wrote bs br w w') {p : Addr} (hp : p.block = bs ∨ p.block = br ∨ w.heap.size ≤ p.block) (v : Value) : Wrote bs br w (w'.setCell p v) :=
  ⟨h.os, h.tape, h.output, by simpa [World.setCell] using h.size, fun k hk h1 h2 => by rw [Below.heap_setCell _ _ _ _ (by omega)]; exact h.block k hk h1 h2⟩
theorem Wrote.of_below (h : Below w.heap.size w w') : Wrote bs br w w' := ⟨h.os, h.tape, h.output, h.size, fun k hk _ _ => h.block k hk⟩
theorem Wrote.below (h : Wrote bs br w w') {B : Nat} (h1 : B ≤ bs) (h2 : B ≤ br) (h3 : B ≤ w.heap.size) : Below B w w' := ⟨h.os, h.tape, h.output, h.size, fun k hk => h.block k (by omega) (by omega) (by omega)⟩
end

end Go.Proofs.Qxb6605552a
