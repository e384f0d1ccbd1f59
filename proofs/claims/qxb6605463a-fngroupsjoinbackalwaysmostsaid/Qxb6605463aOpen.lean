/-
  The two structs among the arguments, opened.
-/
import Derived.Test.Qxb6605463aGroups
import Derived.ProofKit
import Derived.OpenShut
import Derived.ShutString
import Derived.ChangeOld
import Derived.Deep.Fields
namespace Go.Proofs.Qxb6605463a
open Go.ChangeShapes Go.WideShapes Go.ChangeAt Go.RowKit Go.Deep
open Go.ChangeMaps (open_string shut_string)

theorem own : ownKnob Try.prog.godebug = none := by kernel_rfl
theorem laidOut : laidOutB Try.prog = true := by kernel_rfl

theorem array13 {α : Type} {cs : Array α} (h : cs.size = 13) : ∃ c0 c1 c2 c3 c4 c5 c6 c7 c8 c9 c10 c11 c12, cs = #[c0, c1, c2, c3, c4, c5, c6, c7, c8, c9, c10, c11, c12] := by
  obtain ⟨l⟩ := cs
  match l, h with
  | [c0, c1, c2, c3, c4, c5, c6, c7, c8, c9, c10, c11, c12], _ => exact ⟨c0, c1, c2, c3, c4, c5, c6, c7, c8, c9, c10, c11, c12, rfl⟩
theorem array10 {α : Type} {cs : Array α} (h : cs.size = 10) : ∃ c0 c1 c2 c3 c4 c5 c6 c7 c8 c9, cs = #[c0, c1, c2, c3, c4, c5, c6, c7, c8, c9] := by
  obtain ⟨l⟩ := cs
  match l, h with
  | [c0, c1, c2, c3, c4, c5, c6, c7, c8, c9], _ => exact ⟨c0, c1, c2, c3, c4, c5, c6, c7, c8, c9, rfl⟩

section
variable {H : Type} {enc : TypeId × Value → H} {W : World}

/-- A struct by value whose fields are one cell each: each field's cell with its own reading. -/
theorem fields_of {r : Reach} {b0 : Nat} {t : TypeId} {fs : Array Field} {v : Value} {d : DataW H} {p : List MemPlace} (hs : Try.prog.underlying t = some (.struct fs)) (hone : oneCellFields Try.prog fs = true)
    (hv : Value.okWide Try.prog W r b0 t v) (h : DataW.Trod enc Try.prog W 0 (fun _ => true) true t v d p) (hsz : Try.prog.cellsOf t = fs.size) :
    ∃ cs : Array Value, v = .agg cs ∧ cs.size = fs.size ∧ ∃ n, ∀ (i : Nat) (f : Field) (c : Value), fs[i]? = some f → cs[i]? = some c → ∃ y, DataW.trod enc Try.prog W 0 (fun _ => true) true n f.type [c] = some y := by
  obtain ⟨cs, rfl, hc⟩ := okWide_struct hs hv
  obtain ⟨fuel, hf⟩ := h
  obtain ⟨xs, n, _, _, hl, hx, hall⟩ := DataW.trod_struct hs hf
  refine ⟨cs, rfl, hc.trans hsz, n, fun i f c hfi hci => ?_⟩
  obtain ⟨ho, h1⟩ := hone_of hone i f hfi
  have hi := hall i f hfi
  rw [ho, h1] at hi
  have hlt : i < cs.size := (Array.getElem?_eq_some_iff.1 hci).1
  have e : (List.take 1 (List.drop i (Value.agg cs).cells.toList)) = [c] := by
    have hd : (Value.agg cs).cells.toList.drop i = c :: (Value.agg cs).cells.toList.drop (i + 1) := by
      have : i < (Value.agg cs).cells.toList.length := by simpa [Value.cells] using hlt
      rw [List.drop_eq_getElem_cons this]
      congr 1
      have := (Array.getElem?_eq_some_iff.1 hci).2
      simpa [Value.cells] using this
    rw [hd]
    rfl
  rw [e] at hi
  have hxi : i < xs.length := by rw [hx]; exact (Array.getElem?_eq_some_iff.1 hfi).1
  exact ⟨xs[i], by rw [hi]; exact List.getElem?_eq_getElem hxi⟩

theorem int_cell {n : Nat} {t : TypeId} {k : IntKind} {c : Value} (ht : Try.prog.underlying t = some (.int k)) (h : ∃ y, DataW.trod enc Try.prog W 0 (fun _ => true) true n t [c] = some y) : ∃ x, c = .int k x := by
  obtain ⟨y, h⟩ := h
  obtain ⟨x, e, _⟩ := DataW.trod_int ht h
  exact ⟨x, by simpa using e⟩
theorem bool_cell {n : Nat} {t : TypeId} {c : Value} (ht : Try.prog.underlying t = some .bool) (h : ∃ y, DataW.trod enc Try.prog W 0 (fun _ => true) true n t [c] = some y) : ∃ x, c = .bool x := by
  obtain ⟨y, h⟩ := h
  obtain ⟨x, e, _⟩ := DataW.trod_bool ht h
  exact ⟨x, by simpa using e⟩
theorem string_cell {n : Nat} {t : TypeId} {c : Value} (ht : Try.prog.underlying t = some .string) (h : ∃ y, DataW.trod enc Try.prog W 0 (fun _ => true) true n t [c] = some y) : ∃ x, c = .string x := by
  obtain ⟨y, h⟩ := h
  obtain ⟨x, e, _⟩ := DataW.trod_string ht h
  exact ⟨x, by simpa using e⟩

theorem open_settings {r : Reach} {b0 : Nat} {v : Value} {d : DataW H} {p : List MemPlace} (hv : Value.okWide Try.prog W r b0 23 v) (h : DataW.Trod enc Try.prog W 0 (fun _ => true) true 23 v d p) :
    ∃ x0 x1 x2 x3 x4 x5 x6 x7 x8 x9 x10 x11 u, v = setV x0 x1 x2 x3 x4 x5 x6 x7 x8 x9 x10 x11 u := by
  obtain ⟨cs, rfl, hsz, n, hall⟩ := fields_of Try.underlying23 (by kernel_rfl) hv h (by kernel_rfl)
  obtain ⟨c0, c1, c2, c3, c4, c5, c6, c7, c8, c9, c10, c11, c12, rfl⟩ := array13 hsz
  obtain ⟨x0, rfl⟩ := int_cell Try.underlying3 (hall 0 _ c0 rfl rfl)
  obtain ⟨x1, rfl⟩ := bool_cell Try.underlying4 (hall 1 _ c1 rfl rfl)
  obtain ⟨x2, rfl⟩ := bool_cell Try.underlying4 (hall 2 _ c2 rfl rfl)
  obtain ⟨x3, rfl⟩ := bool_cell Try.underlying4 (hall 3 _ c3 rfl rfl)
  obtain ⟨x4, rfl⟩ := int_cell Try.underlying3 (hall 4 _ c4 rfl rfl)
  obtain ⟨x5, rfl⟩ := int_cell Try.underlying3 (hall 5 _ c5 rfl rfl)
  obtain ⟨x6, rfl⟩ := int_cell Try.underlying3 (hall 6 _ c6 rfl rfl)
  obtain ⟨x7, rfl⟩ := int_cell Try.underlying3 (hall 7 _ c7 rfl rfl)
  obtain ⟨x8, rfl⟩ := int_cell Try.underlying2 (hall 8 _ c8 rfl rfl)
  obtain ⟨x9, rfl⟩ := int_cell Try.underlying3 (hall 9 _ c9 rfl rfl)
  obtain ⟨x10, rfl⟩ := bool_cell Try.underlying4 (hall 10 _ c10 rfl rfl)
  obtain ⟨x11, rfl⟩ := string_cell Try.underlying9 (hall 11 _ c11 rfl rfl)
  obtain ⟨x12, rfl⟩ := string_cell Try.underlying9 (hall 12 _ c12 rfl rfl)
  exact ⟨x0, x1, x2, x3, x4, x5, x6, x7, x8, x9, x10, x11, x12, rfl⟩

theorem open_symbols {r : Reach} {b0 : Nat} {v : Value} {d : DataW H} {p : List MemPlace} (hv : Value.okWide Try.prog W r b0 25 v) (h : DataW.Trod enc Try.prog W 0 (fun _ => true) true 25 v d p) :
    ∃ y0 y1 y2 p s mg y6 y7 y8 y9, v = symV y0 y1 y2 p s mg y6 y7 y8 y9 := by
  obtain ⟨cs, rfl, hsz, n, hall⟩ := fields_of Try.underlying25 (by kernel_rfl) hv h (by kernel_rfl)
  obtain ⟨c0, c1, c2, c3, c4, c5, c6, c7, c8, c9, rfl⟩ := array10 hsz
  obtain ⟨x0, rfl⟩ := int_cell Try.underlying21 (hall 0 _ c0 rfl rfl)
  obtain ⟨x1, rfl⟩ := string_cell Try.underlying9 (hall 1 _ c1 rfl rfl)
  obtain ⟨x2, rfl⟩ := string_cell Try.underlying9 (hall 2 _ c2 rfl rfl)
  obtain ⟨x3, rfl⟩ := int_cell Try.underlying3 (hall 3 _ c3 rfl rfl)
  obtain ⟨x4, rfl⟩ := int_cell Try.underlying3 (hall 4 _ c4 rfl rfl)
  obtain ⟨x5, rfl⟩ := int_cell Try.underlying3 (hall 5 _ c5 rfl rfl)
  obtain ⟨x6, rfl⟩ := string_cell Try.underlying9 (hall 6 _ c6 rfl rfl)
  obtain ⟨x7, rfl⟩ := string_cell Try.underlying9 (hall 7 _ c7 rfl rfl)
  obtain ⟨x8, rfl⟩ := string_cell Try.underlying9 (hall 8 _ c8 rfl rfl)
  obtain ⟨x9, rfl⟩ := string_cell Try.underlying9 (hall 9 _ c9 rfl rfl)
  exact ⟨x0, x1, x2, x3, x4, x5, x6, x7, x8, x9, rfl⟩
end

end Go.Proofs.Qxb6605463a
