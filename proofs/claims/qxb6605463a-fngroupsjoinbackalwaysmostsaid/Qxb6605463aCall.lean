/-
  All of groups under one contract; the makers, ZZGroups, callGroups.
-/
import Derived.Test.Qxb6605463aGroups2
namespace Go.Proofs.Qxb6605463a
open Go.RowKit

def wholeB (u : ByteArray) (n p : Nat) (mg : Int) : Bool := (u.toList == [110, 101, 118, 101, 114]) || (p == 0) || decide ((n : Int) < p + least u mg)

/-- How many groups. -/
def GL (u : ByteArray) (n p s : Nat) (mg : Int) : Nat := if wholeB u n p mg then 1 else J n p s + 1
/-- Group t. -/
def GS (u d : ByteArray) (p s : Nat) (mg : Int) (t : Nat) : ByteArray := if wholeB u d.size p mg then d else d.extract (E d.size p s (J d.size p s + 1 - t)) (E d.size p s (J d.size p s - t))

theorem groups24 (x0 : Int) (x1 x2 x3 : Bool) (x4 x5 x6 x7 x8 x9 : Int) (x10 : Bool) (x11 u : ByteArray) (y0 : Int) (y1 y2 : ByteArray) (p s : Nat) (mg : Int) (y6 y7 y8 y9 : ByteArray) (d : ByteArray) (w : World)
    (hd : d.size ≤ 65536) (hp : p ≤ 536870912) (hs : s ≤ 536870912) (hps : 0 < p → 0 < s) (hm1 : -536870912 ≤ mg) (hm2 : mg ≤ 536870912) :
    Calls Try.prog 24 #[setV x0 x1 x2 x3 x4 x5 x6 x7 x8 x9 x10 x11 u, .string d, symV y0 y1 y2 p s mg y6 y7 y8 y9] w fun e w' => Strs w w' e (GL u d.size p s mg) (GS u d p s mg) := by
  cases hw : wholeB u d.size p mg with
  | true =>
    have e1 : GL u d.size p s mg = 1 := by simp [GL, hw]
    have e2 : GS u d p s mg = fun _ => d := by funext t; simp [GS, hw]
    rw [e1, e2]
    refine groups_no x0 x1 x2 x3 x4 x5 x6 x7 x8 x9 x10 x11 u y0 y1 y2 p s mg y6 y7 y8 y9 d w hd hp hm1 hm2 ?_
    unfold wholeB at hw
    simp only [Bool.or_eq_true, beq_iff_eq, decide_eq_true_eq] at hw
    rcases hw with (h | h) | h
    · exact .inl (by simpa using h)
    · exact .inr (.inl h)
    · exact .inr (.inr h)
  | false =>
    have e1 : GL u d.size p s mg = J d.size p s + 1 := by simp [GL, hw]
    have e2 : GS u d p s mg = fun t => d.extract (E d.size p s (J d.size p s + 1 - t)) (E d.size p s (J d.size p s - t)) := by funext t; simp [GS, hw]
    rw [e1, e2]
    unfold wholeB at hw
    simp only [Bool.or_eq_false_iff, decide_eq_false_iff_not] at hw
    obtain ⟨⟨hN, hp0⟩, hl⟩ := hw
    have hp0' : 0 < p := by
      have : ¬ p = 0 := by simpa using hp0
      omega
    refine groups_yes x0 x1 x2 x3 x4 x5 x6 x7 x8 x9 x10 x11 u y0 y1 y2 p s mg y6 y7 y8 y9 d w hd hp hs hp0' (hps hp0') hm1 hm2 ?_ hN
    unfold least at hl
    rcases modes u.toList with ⟨a, b, c⟩ | ⟨a, b, c⟩ | ⟨a, b, c⟩ | ⟨a, b, c⟩
    · rw [a] at hl; simp at hl; exact .inl ⟨a, b, by omega⟩
    · rw [a, b] at hl; simp at hl; exact .inr (.inl ⟨a, b, by omega⟩)
    · rw [c] at hN; cases hN
    · rw [a, b] at hl; simp at hl; exact .inr (.inr ⟨a, b, by omega⟩)

set_option maxRecDepth 100000 in
set_option maxHeartbeats 1000000 in
theorem settings21 (x0 : Int) (x1 x2 x3 : Bool) (x4 x5 x6 x7 x8 x9 : Int) (x10 : Bool) (x11 u : ByteArray) (w : World) :
    Calls Try.prog 21 #[.int .i64 x0, .bool x1, .bool x2, .bool x3, .int .i64 x4, .int .i64 x5, .int .i64 x6, .int .i64 x7, .int .i64 x8, .int .i64 x9, .bool x10, .string x11, .string u] w
      fun e w' => e = .returned (setV x0 x1 x2 x3 x4 x5 x6 x7 x8 x9 x10 x11 u) ∧ Below w.heap.size w w' := by
  go_enter Try.func21, Try.ntmps21
  go_wp2
  refine bodyPost_ret (v := setV x0 x1 x2 x3 x4 x5 x6 x7 x8 x9 x10 x11 u) (by simp [results, Try.results21, go_sem]) rfl ⟨rfl, (Below.refl _ _).alloc (Nat.le_refl _) _⟩

set_option maxRecDepth 100000 in
set_option maxHeartbeats 1000000 in
theorem symbols23 (y0 : Int) (y1 y2 : ByteArray) (p s mg : Int) (y6 y7 y8 y9 : ByteArray) (w : World) :
    Calls Try.prog 23 #[.int .i32 y0, .string y1, .string y2, .int .i64 p, .int .i64 s, .int .i64 mg, .string y6, .string y7, .string y8, .string y9] w
      fun e w' => e = .returned (symV y0 y1 y2 p s mg y6 y7 y8 y9) ∧ Below w.heap.size w w' := by
  go_enter Try.func23, Try.ntmps23
  go_wp2
  refine bodyPost_ret (v := symV y0 y1 y2 p s mg y6 y7 y8 y9) (by simp [results, Try.results23, go_sem]) rfl ⟨rfl, (Below.refl _ _).alloc (Nat.le_refl _) _⟩

theorem Strs.after {w w1 w' : World} {e : Ending} {n : Nat} {S : Nat → ByteArray} (hb : Below w.heap.size w w1) (h : Strs w1 w' e n S) : Strs w w' e n S := by
  obtain ⟨a, c, he, hb', hc⟩ := h
  exact ⟨a, c, he, below_all hb hb', hc⟩

set_option maxRecDepth 100000 in
set_option maxHeartbeats 1000000 in
theorem zzGroups19 (x0 : Int) (x1 x2 x3 : Bool) (x4 x5 x6 x7 x8 x9 : Int) (x10 : Bool) (x11 u : ByteArray) (y0 : Int) (y1 y2 : ByteArray) (p s : Nat) (mg : Int) (y6 y7 y8 y9 : ByteArray) (d : ByteArray) (w : World)
    (hd : d.size ≤ 65536) (hp : p ≤ 536870912) (hs : s ≤ 536870912) (hps : 0 < p → 0 < s) (hm1 : -536870912 ≤ mg) (hm2 : mg ≤ 536870912) :
    Calls Try.prog 19 #[.int .i64 x0, .bool x1, .bool x2, .bool x3, .int .i64 x4, .int .i64 x5, .int .i64 x6, .int .i64 x7, .int .i64 x8, .int .i64 x9, .bool x10, .string x11, .string u, .string d,
      .int .i32 y0, .string y1, .string y2, .int .i64 p, .int .i64 s, .int .i64 mg, .string y6, .string y7, .string y8, .string y9] w fun e w' => Strs w w' e (GL u d.size p s mg) (GS u d p s mg) := by
  go_enter Try.func19, Try.ntmps19
  go_wp2_with fail
  refine (settings21 x0 x1 x2 x3 x4 x5 x6 x7 x8 x9 x10 x11 u _).mono ?_
  rintro e w1 ⟨rfl, hb1⟩
  go_wp2_with fail
  refine (symbols23 y0 y1 y2 p s mg y6 y7 y8 y9 _).mono ?_
  rintro e w2 ⟨rfl, hb2⟩
  go_wp2_with fail
  refine (groups24 x0 x1 x2 x3 x4 x5 x6 x7 x8 x9 x10 x11 u y0 y1 y2 p s mg y6 y7 y8 y9 d _ hd hp hs hps hm1 hm2).mono ?_
  rintro e w3 ⟨a, c, rfl, hb3, hc⟩
  have H : Hid _ := hc
  clear hc
  go_wp2
  go_ret
  exact ⟨a, c, rfl, below_all (below_all hb1 hb2) hb3, H.out⟩

set_option maxRecDepth 100000 in
set_option maxHeartbeats 1000000 in
theorem callGroups13 (x0 : Int) (x1 x2 x3 : Bool) (x4 x5 x6 x7 x8 x9 : Int) (x10 : Bool) (x11 u : ByteArray) (y0 : Int) (y1 y2 : ByteArray) (p s : Nat) (mg : Int) (y6 y7 y8 y9 : ByteArray) (d : ByteArray) (w : World)
    (hd : d.size ≤ 65536) (hp : p ≤ 536870912) (hs : s ≤ 536870912) (hps : 0 < p → 0 < s) (hm1 : -536870912 ≤ mg) (hm2 : mg ≤ 536870912) :
    Calls Try.prog 13 #[setV x0 x1 x2 x3 x4 x5 x6 x7 x8 x9 x10 x11 u, .string d, symV y0 y1 y2 p s mg y6 y7 y8 y9] w fun e w' => Strs w w' e (GL u d.size p s mg) (GS u d p s mg) := by
  go_enter Try.func13, Try.ntmps13
  go_wp2_with fail
  refine (zzGroups19 x0 x1 x2 x3 x4 x5 x6 x7 x8 x9 x10 x11 u y0 y1 y2 p s mg y6 y7 y8 y9 d _ hd hp hs hps hm1 hm2).mono ?_
  rintro e w3 ⟨a, c, rfl, hb3, hc⟩
  have H : Hid _ := hc
  clear hc
  go_wp2
  go_ret
  exact ⟨a, c, rfl, below_all (((Below.refl _ _).alloc (Nat.le_refl _) _).alloc (by simp) _) hb3, H.out⟩

end Go.Proofs.Qxb6605463a
