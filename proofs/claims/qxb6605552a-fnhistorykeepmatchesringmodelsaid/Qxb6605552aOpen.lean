/-
  The openers of this statement's arguments: []int32, []byte, [][]byte.
-/
import Derived.Test.Qxb6605552aKit
import Derived.ProofKit
import Derived.OpenShut
import Derived.ShutString
import Derived.ChangeOld
import Derived.SliceStrings
import Derived.Deep.Matrix
namespace Go.Proofs.Qxb6605552a
open Go.ChangeShapes Go.WideShapes Go.ChangeAt Go.RowKit

theorem own : ownKnob Try.prog.godebug = none := by kernel_rfl
theorem laidOut : laidOutB Try.prog = true := by kernel_rfl

theorem cells_none (w : World) (f : Nat → Value) : Cells w none 0 f := fun h => absurd h (by omega)

theorem cells_of_all {w : World} {x : Addr} {len : Nat} {f : Nat → Value} (hc : ∀ i, i < len → w.cell? (x.add i) = some (f i)) : Cells w (some x) len f := by
  intro hn
  obtain ⟨b, off, spot⟩ := x
  have hspot : spot = none := by simpa [Addr.add] using World.cell?_spot (hc 0 (by omega))
  subst hspot
  refine ⟨b, off, rfl, fun i hi => ?_⟩
  have := hc i (by omega)
  rwa [Addr.add_lit] at this

section
variable {H : Type} {enc : TypeId × Value → H}

theorem ints_of {W : World} {t e : TypeId} {k : IntKind} {a : Option Addr} {len cap : Nat} {d : DataW H} {p : List MemPlace}
    (ht : Try.prog.underlying t = some (.slice e)) (he : Try.prog.underlying e = some (.int k)) (hc : Try.prog.cellsOf e = 1)
    (h : DataW.Trod enc Try.prog W 0 (fun _ => true) true t (.slice a len cap) d p) : ∃ f : Nat → Int, Cells W a len (fun i => .int k (f i)) := by
  obtain ⟨fuel, hf⟩ := h
  rcases open_ints ht he hc hf with ⟨hcs, _⟩ | ⟨x, l, c, zs, hcs, _, hl, hm, hz, _, hcell, hwz⟩
  · simp [Value.cells] at hcs
    obtain ⟨rfl, rfl, rfl⟩ := hcs
    exact ⟨fun _ => 0, cells_none _ _⟩
  · simp [Value.cells] at hcs
    obtain ⟨rfl, rfl, rfl⟩ := hcs
    simp only [if_true] at hz
    exact ⟨fun i => zs.getD i 0, cells_of_all fun i hi => hcell i (by omega)⟩

theorem rows_of {W : World} {t e q : TypeId} {k : IntKind} {a : Option Addr} {len cap : Nat} {d : DataW H} {p : List MemPlace}
    (ht : Try.prog.underlying t = some (.slice e)) (he : Try.prog.underlying e = some (.slice q)) (hq : Try.prog.underlying q = some (.int k)) (ce : Try.prog.cellsOf e = 1) (cq : Try.prog.cellsOf q = 1)
    (h : DataW.Trod enc Try.prog W 0 (fun _ => true) true t (.slice a len cap) d p) :
    len ≤ 9223372036854775807 ∧ ∃ V : Nat → Pay, Cells W a len (fun i => pv (V i)) ∧ ∀ i, i < len → ∃ B : Nat → Int, Cells W (V i).1 (V i).2.1 (fun i => .int k (B i)) := by
  obtain ⟨fuel, hf⟩ := h
  rcases Go.Deep.open_int_rows ht he hq ce cq hf with ⟨hcs, _⟩ | ⟨x, l, c, A, L, C, Z, hcs, _, hl, hm, _, hr⟩
  · simp [Value.cells] at hcs
    obtain ⟨rfl, rfl, rfl⟩ := hcs
    exact ⟨by omega, fun _ => nilPay, cells_none _ _, fun i hi => absurd hi (by omega)⟩
  · simp [Value.cells] at hcs
    obtain ⟨rfl, rfl, rfl⟩ := hcs
    unfold maxLen at hm
    refine ⟨by omega, fun i => (A i, L i, C i), cells_of_all fun i hi => (hr i (by omega)).1, fun i hi => ?_⟩
    obtain ⟨_, h1, h2, h3, _, h5, h6⟩ := hr i (by omega)
    refine ⟨fun c => (Z i).getD c 0, ?_⟩
    show Cells W (A i) (L i) _
    cases hA : A i with
    | none =>
      have e0 : L i = 0 := by have := h5 hA; omega
      rw [e0]
      exact cells_none _ _
    | some x => exact cells_of_all fun c hc => (h6 x hA).2 c (by omega)
end

end Go.Proofs.Qxb6605552a
