/-
  (numberSettings).groups.
-/
import Derived.Test.Qxb6605463aReverse
import Derived.Test.Qxb6605463aPlain
import Derived.Deep.QuietTactic
import Derived.BigQuiet
namespace Go.Proofs.Qxb6605463a
open Go.RowKit

/-- A number settings value, its fields written out. -/
abbrev setV (x0 : Int) (x1 x2 x3 : Bool) (x4 x5 x6 x7 x8 x9 : Int) (x10 : Bool) (x11 u : ByteArray) : Value :=
  .agg #[.int .i64 x0, .bool x1, .bool x2, .bool x3, .int .i64 x4, .int .i64 x5, .int .i64 x6, .int .i64 x7, .int .i64 x8, .int .i64 x9, .bool x10, .string x11, .string u]
/-- A number symbols value, its fields written out. -/
abbrev symV (y0 : Int) (y1 y2 : ByteArray) (p s mg : Int) (y6 y7 y8 y9 : ByteArray) : Value :=
  .agg #[.int .i32 y0, .string y1, .string y2, .int .i64 p, .int .i64 s, .int .i64 mg, .string y6, .string y7, .string y8, .string y9]

theorem modes (l : List UInt8) :
    ((l == [97, 108, 119, 97, 121, 115]) = true ∧ (l == [109, 105, 110, 50]) = false ∧ (l == [110, 101, 118, 101, 114]) = false) ∨
    ((l == [97, 108, 119, 97, 121, 115]) = false ∧ (l == [109, 105, 110, 50]) = true ∧ (l == [110, 101, 118, 101, 114]) = false) ∨
    ((l == [97, 108, 119, 97, 121, 115]) = false ∧ (l == [109, 105, 110, 50]) = false ∧ (l == [110, 101, 118, 101, 114]) = true) ∨
    ((l == [97, 108, 119, 97, 121, 115]) = false ∧ (l == [109, 105, 110, 50]) = false ∧ (l == [110, 101, 118, 101, 114]) = false) := by
  by_cases a : l = [97, 108, 119, 97, 121, 115]
  · subst a; exact .inl (by decide)
  · by_cases m : l = [109, 105, 110, 50]
    · subst m; exact .inr (.inl (by decide))
    · by_cases n : l = [110, 101, 118, 101, 114]
      · subst n; exact .inr (.inr (.inl (by decide)))
      · exact .inr (.inr (.inr ⟨by simpa using a, by simpa using m, by simpa using n⟩))

/-- What a mode makes of the locale's least number of digits. -/
def least (u : ByteArray) (mg : Int) : Int :=
  if (u.toList == [97, 108, 119, 97, 121, 115]) = true then 1 else if (u.toList == [109, 105, 110, 50]) = true then max 2 mg else mg
/-- The code's own test for 'no groups'. -/
def whole (u : ByteArray) (n p : Nat) (mg : Int) : Prop := (u.toList == [110, 101, 118, 101, 114]) = true ∨ p = 0 ∨ (n : Int) < p + least u mg

theorem app_step {w wr w1 : World} {B j : Nat} {v c : Value} {xs : List Value} {o : Obj} (hown : wr.ownsRow (B + 2) 9 1 v j xs) (hbel : Below B w wr) (hsz : B + 2 ≤ wr.heap.size)
    (hc : wr.cell? ⟨B + 1, 4, none⟩ = some c) (hgrow : (wr.alloc o).grownBy w1 v.ownBlock) : Below B w w1 ∧ B + 2 ≤ w1.heap.size ∧ w1.cell? ⟨B + 1, 4, none⟩ = some c := by
  have hl := hown.lt
  have hs1 := hgrow.size
  simp at hs1
  have hb1 : Below B w (wr.alloc o) := hbel.alloc (by omega) o
  refine ⟨hb1.grown hgrow (by simp; omega) (fun k hk => by have := (hl k hk).1; omega), by omega, ?_⟩
  refine hgrow.cell ?_ ?_
  · rw [World.cell?_of_block (w := wr) (Below.heap_alloc wr o (B + 1) (by omega))]
    exact hc
  · intro e
    have h := (hl _ e.symm).1
    have h' : B + 2 ≤ B + 1 := h
    omega

theorem start2 (w : World) (c1 c2 : Array Value) (t1 t2 : TypeId) (v : Value) (q : Nat) (hv : c2[4]? = some v) :
    Below w.heap.size w (((w.alloc (.cells c1 t1)).alloc (.cells c2 t2)).drewN q) ∧ w.heap.size + 2 ≤ (((w.alloc (.cells c1 t1)).alloc (.cells c2 t2)).drewN q).heap.size ∧
      (((w.alloc (.cells c1 t1)).alloc (.cells c2 t2)).drewN q).cell? ⟨w.heap.size + 1, 4, none⟩ = some v := by
  have hb : Below w.heap.size w ((w.alloc (.cells c1 t1)).alloc (.cells c2 t2)) := ((Below.refl _ _).alloc (Nat.le_refl _) _).alloc (by simp) _
  refine ⟨hb.trans ((below_drewN _ q).mono hb.size), ?_, ?_⟩
  · show w.heap.size + 2 ≤ ((w.alloc (.cells c1 t1)).alloc (.cells c2 t2)).heap.size
    simp
  · have e : ((w.alloc (.cells c1 t1)).alloc (.cells c2 t2)).heap[(w.alloc (.cells c1 t1)).heap.size]? = some (.cells c2 t2 (0, 0)) := heap_alloc_new _ _
    have e2 : (w.alloc (.cells c1 t1)).heap.size = w.heap.size + 1 := by simp
    rw [e2] at e
    have := cell_of_row ((w.alloc (.cells c1 t1)).alloc (.cells c2 t2)) (w.heap.size + 1) 4 c2 t2 (0, 0) e
    rw [hv] at this
    exact this

theorem range_snoc (f : Nat → Value) (j : Nat) : (List.range j).map f ++ [f j] = (List.range (j + 1)).map f := by
  rw [List.range_succ, List.map_append]; rfl

set_option maxRecDepth 100000 in
set_option maxHeartbeats 2000000 in
theorem groups_yes (x0 : Int) (x1 x2 x3 : Bool) (x4 x5 x6 x7 x8 x9 : Int) (x10 : Bool) (x11 u : ByteArray) (y0 : Int) (y1 y2 : ByteArray) (p s : Nat) (mg : Int) (y6 y7 y8 y9 : ByteArray) (d : ByteArray) (w : World)
    (hd : d.size ≤ 65536) (hp : p ≤ 536870912) (hs : s ≤ 536870912) (hp0 : 0 < p) (hs0 : 0 < s) (hm1 : -536870912 ≤ mg) (hm2 : mg ≤ 536870912)
    (hmode : ((u.toList == [97, 108, 119, 97, 121, 115]) = true ∧ (u.toList == [109, 105, 110, 50]) = false ∧ (p : Int) + 1 ≤ d.size) ∨ ((u.toList == [97, 108, 119, 97, 121, 115]) = false ∧ (u.toList == [109, 105, 110, 50]) = true ∧ (p : Int) + max 2 mg ≤ d.size) ∨
      ((u.toList == [97, 108, 119, 97, 121, 115]) = false ∧ (u.toList == [109, 105, 110, 50]) = false ∧ (p : Int) + mg ≤ d.size)) (hN : (u.toList == [110, 101, 118, 101, 114]) = false) :
    Calls Try.prog 24 #[setV x0 x1 x2 x3 x4 x5 x6 x7 x8 x9 x10 x11 u, .string d, symV y0 y1 y2 p s mg y6 y7 y8 y9] w fun e w' => Strs w w' e (J d.size p s + 1) (fun t => d.extract (E d.size p s (J d.size p s + 1 - t)) (E d.size p s (J d.size p s - t))) := by
  have hpz : ((p : Int) == 0) = false := by rw [beq_eq_false_iff_ne]; omega
  obtain ⟨i9, hi, hz0, hz1, hz2⟩ := info_parts info9
  have hsub : ∀ j, E d.size p s j ≤ d.size := E_le_n d.size p s
  have hmode4 : ((u.toList == [97, 108, 119, 97, 121, 115]) = true ∧ (u.toList == [109, 105, 110, 50]) = false ∧ (p : Int) + 1 ≤ d.size) ∨ ((u.toList == [97, 108, 119, 97, 121, 115]) = false ∧ (u.toList == [109, 105, 110, 50]) = true ∧ 2 < mg ∧ (p : Int) + mg ≤ d.size) ∨
      ((u.toList == [97, 108, 119, 97, 121, 115]) = false ∧ (u.toList == [109, 105, 110, 50]) = true ∧ mg ≤ 2 ∧ (p : Int) + 2 ≤ d.size) ∨ ((u.toList == [97, 108, 119, 97, 121, 115]) = false ∧ (u.toList == [109, 105, 110, 50]) = false ∧ (p : Int) + mg ≤ d.size) := by
    rcases hmode with h | ⟨a, b, c⟩ | h
    · exact .inl h
    · by_cases e : 2 < mg
      · exact .inr (.inl ⟨a, b, e, by omega⟩)
      · exact .inr (.inr (.inl ⟨a, b, by omega, by omega⟩))
    · exact .inr (.inr (.inr h))
  clear hmode
  have HE : Hid (∀ j, E d.size p s j ≤ d.size) := hsub
  clear hsub
  rcases hmode4 with ⟨hA, hM, hlv⟩ | ⟨hA, hM, hmg, hlv⟩ | ⟨hA, hM, hmg, hlv⟩ | ⟨hA, hM, hlv⟩
  all_goals
    go_enter Try.func24, Try.ntmps24
    go_wp2
    go_quiet (fail)
    go_wp2
    go_loopw [8, 9, 10] (fun v e z wr => ∃ j : Nat, e = .int .i64 (E d.size p s j) ∧ z = .int .i64 (sz p s j) ∧ wr.ownsRow (w.heap.size + 2) 9 1 v j ((List.range j).map fun i => .string (d.extract (E d.size p s (i + 1)) (E d.size p s i))) ∧
      (∀ i, i < j → sz p s i < E d.size p s i) ∧ E d.size p s j + j ≤ d.size ∧ Below w.heap.size w wr ∧ w.heap.size + 2 ≤ wr.heap.size ∧ wr.cell? ⟨w.heap.size + 1, 4, none⟩ = some (.int .i64 s)) (fun _ e _ _ => (intOf e).toNat)
    case atStart =>
      exact ⟨0, rfl, rfl, World.ownsRow_nil _ _ _ _, fun i hi => absurd hi (by omega), by simp [E], start2 w _ _ 44 51 (.int .i64 s) nq (by rfl)⟩
    case round =>
      obtain ⟨j, rfl, rfl, hown, hgo, hj, hbel, hsz, hcs⟩ := hrel
      have h1 := HE.out j
      have h2 := E_succ d.size p s j
      have h3 : 0 < sz p s j := by cases j <;> simp [sz] <;> omega
      have h4 : sz p s (j + 1) = s := rfl
      have h5 : sz p s j ≤ 536870912 := by cases j <;> simp [sz] <;> omega
      by_cases hlt : sz p s j < E d.size p s j
      · have H : Hid (E d.size p s (j + 1) = E d.size p s j - sz p s j ∧ sz p s (j + 1) = s) := ⟨h2, h4⟩
        have hgo' : ∀ i, i < j + 1 → sz p s i < E d.size p s i := fun i hi => if e : i = j then e ▸ hlt else hgo i (by omega)
        clear hgo
        have hgo := hgo'
        clear hgo'
        have HO : Hid (∀ z, z = E d.size p s j - sz p s j → (List.range j).map (fun i => Value.string (d.extract (E d.size p s (i + 1)) (E d.size p s i))) ++ [Value.string (d.extract z (E d.size p s j))] = (List.range (j + 1)).map (fun i => Value.string (d.extract (E d.size p s (i + 1)) (E d.size p s i)))) := fun z hz => by rw [hz, ← h2]; exact range_snoc (fun i => Value.string (d.extract (E d.size p s (i + 1)) (E d.size p s i))) j
        clear h2 h4
        generalize E d.size p s j = ej at *
        generalize sz p s j = zj at *
        have l1 : (zj : Int) < (ej : Int) := by omega
        have l2 : (ej : Int) ≤ (d.size : Int) := by omega
        have HG : Hid (∀ i, i < j + 1 → sz p s i < E d.size p s i) := hgo
        clear hgo
        go_wp2_with (at_builtin; refine wpList_append_own _ rfl _ _ 34 rfl (w.heap.size + 2) 9 i9 (.string ⟨#[]⟩) 1 16 Try.underlying34 hi hz0 hz1 hz2 rfl (by decide) _ _ _ rfl (hown.alloc _) ⟨wr.heap.size, 0, none⟩ 1 1 _ rfl rfl (cell_one_new _ _ _) ?c2 ?c3 ?c4 ?c5 ?_)
        case c2 => intro u hu; simp at hu; subst hu; rfl
        case c3 => unfold maxLen; omega
        case c4 => omega
        case c5 => simp; omega
        intro v' w1 hown' hgrow _
        have R := app_step hown hbel hsz hcs hgrow
        rw [HO.out _ rfl] at hown'
        clear hgrow hown hbel hsz hcs
        obtain ⟨r1, r2, r3⟩ := R
        have HW : Hid (w1.ownsRow (w.heap.size + 2) 9 1 v' (j + 1) ((List.range (j + 1)).map fun i => .string (d.extract (E d.size p s (i + 1)) (E d.size p s i)))) := hown'
        clear hown'
        go_wp2
        go_roundw
        case rel => exact ⟨j + 1, by rw [H.out.1]; congr 1; omega, by rw [H.out.2], HW.out, HG.out, by rw [H.out.1]; omega, r1, r2, r3⟩
        case measure => simp [intOf]; omega
      · have hJ : j = J d.size p s := J_of d.size p s j hs0 hgo (by omega)
        have hz : E d.size p s (j + 1) = 0 := by omega
        have HO : Hid ((List.range j).map (fun i => Value.string (d.extract (E d.size p s (i + 1)) (E d.size p s i))) ++ [Value.string (d.extract 0 (E d.size p s j))] = (List.range (j + 1)).map (fun i => Value.string (d.extract (E d.size p s (i + 1)) (E d.size p s i)))) := by
          have := range_snoc (fun i => Value.string (d.extract (E d.size p s (i + 1)) (E d.size p s i))) j
          simp only [hz] at this
          exact this
        have HJ : Hid (j = J d.size p s) := hJ
        clear hJ hz h2 h4 hgo
        generalize E d.size p s j = ej at *
        generalize sz p s j = zj at *
        have l2 : (ej : Int) ≤ (d.size : Int) := by omega
        go_wp2_with (at_builtin; refine wpList_append_own _ rfl _ _ 34 rfl (w.heap.size + 2) 9 i9 (.string ⟨#[]⟩) 1 16 Try.underlying34 hi hz0 hz1 hz2 rfl (by decide) _ _ _ rfl (hown.alloc _) ⟨wr.heap.size, 0, none⟩ 1 1 _ rfl rfl (cell_one_new _ _ _) ?d2 ?d3 ?d4 ?d5 ?_)
        case d2 => intro u hu; simp at hu; subst hu; rfl
        case d3 => unfold maxLen; omega
        case d4 => omega
        case d5 => simp; omega
        intro v' w1 hown' hgrow _
        have R := app_step hown hbel hsz hcs hgrow
        rw [HO.out] at hown'
        clear hgrow hown hbel hsz hcs
        obtain ⟨r1, r2, r3⟩ := R
        obtain ⟨g, cap, hv, hg1, hg2, hrow⟩ := Row.of_owns (S := fun i => d.extract (E d.size p s (i + 1)) (E d.size p s i)) hown' (by omega) rfl
        rw [hv]
        clear hv hown'
        go_wp2_with fail
        refine (reverse26 g (j + 1) cap (fun i => d.extract (E d.size p s (i + 1)) (E d.size p s i)) w1 (by omega) (by omega) hrow).mono ?_
        rintro e w3 ⟨rfl, hgr, hrow3⟩
        have HR : Hid (Row w3 g (j + 1) (fun t => d.extract (E d.size p s (j + 1 - 1 - t + 1)) (E d.size p s (j + 1 - 1 - t)))) := hrow3
        clear hrow3 hrow
        go_wp2
        go_ret
        rw [← HJ.out]
        refine ⟨_, _, rfl, r1.grown hgr (by omega) (fun k hk => by have := Option.some.inj hk; omega), (HR.out.congr fun t ht => ?_).cells⟩
        rw [show j + 1 - 1 - t + 1 = j + 1 - t by omega, show j + 1 - 1 - t = j - t by omega]

end Go.Proofs.Qxb6605463a
