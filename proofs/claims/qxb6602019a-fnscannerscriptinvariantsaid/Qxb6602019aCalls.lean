/-
  more; the three exported calls.
-/
import Derived.Test.Qxb6602019aLit
namespace Go.Proofs.Qxb6602019a
open Go.RowKit

/-- What 'more' leaves. -/
def Moved (n x : Nat) (d r : Bool) (x' : Nat) (d' : Bool) : Prop := x ≤ x' ∧ x' ≤ n ∧ (r = true → d' = d) ∧ (d = true → d' = true) ∧ (d' = true → x' = n)

def MoreTold (b n c : Nat) (a : Option Addr) (x : Nat) (d : Bool) (w0 w' : World) (en : Ending) : Prop :=
  ∃ r x' d', en = .returned (.bool r) ∧ SC w' b a n c (x' : Nat) d' ∧ Below w0.heap.size w0 w' ∧ Moved n x d r x' d'

set_option maxHeartbeats 1000000 in
theorem more25 (b n c : Nat) (a : Option Addr) (x : Nat) (d : Bool) (B : Nat → Int) (cl : Int) (f : Bool) (w0 w : World) (hb : w0.heap.size ≤ b) (hbel : Below w0.heap.size w0 w) (H : SC w b a n c x d)
    (hn : n ≤ 1048576) (hc : Cells w0 a n (fun i => .int .u8 (B i))) (hx : x ≤ n) (hd : d = true → x = n) (hcl : ¬ cl = 0) :
    Calls Try.prog 25 #[.pointer (some ⟨b, 0, none⟩), .int .u8 cl, .bool f] w fun en w' => MoreTold b n c a x d w0 w' en := by
  obtain ⟨e, hs⟩ := Stop.ex notSp B hx
  obtain ⟨v, hv⟩ : ∃ v : Int, v = if e = n then 0 else B e := ⟨_, rfl⟩
  have he1 := hs.1
  have he2 := hs.2.1
  have HD : Hid (d = true → x = n) := hd
  have HV : Hid (¬ v = 0 → e < n) := by
    intro h
    by_cases q : e = n
    · rw [if_pos q] at hv
      exact absurd hv h
    · omega
  go_enter Try.func25, Try.ntmps25
  go_wp2_with fail
  refine (peek21 b n c a x e d B v w0 _ hb hbel H hn hc hs hv).mono ?_
  clear hs hv H hbel hc hd
  rintro e' w1 ⟨rfl, hS, hbel⟩
  obtain ⟨c0, c1, c2⟩ := hS.cells
  have z1 := hS.frozen 1
  have R : Hid (SC w1 b a n c e d ∧ Below w0.heap.size w0 w1) := ⟨hS, hbel⟩
  clear hS hbel
  cases h1 : (v == cl) with
  | true =>
    have hen : e < n := HV.out (by rw [beq_iff_eq] at h1; rw [h1]; exact hcl)
    go_wp2_with fail
    go_ret
    exact ⟨false, e + 1, d, rfl, R.out.1.set1 _, R.out.2.setCell hb _, by omega, by omega, (fun h => by cases h), id, fun h => absurd (HD.out h) (by omega)⟩
  | false =>
    cases f with
    | true =>
      go_wp2_with fail
      go_ret
      exact ⟨true, e, d, rfl, R.out.1, R.out.2, by omega, by omega, fun _ => rfl, id, fun h => by have := HD.out h; omega⟩
    | false =>
      cases h2 : (v == 44) with
      | true =>
        have h3 : (v != 44) = false := by simp [bne, h2]
        have hen : e < n := HV.out (by rw [beq_iff_eq] at h2; rw [h2]; decide)
        go_wp2_with fail
        go_ret
        exact ⟨true, e + 1, d, rfl, R.out.1.set1 _, R.out.2.setCell hb _, by omega, by omega, fun _ => rfl, id, fun h => absurd (HD.out h) (by omega)⟩
      | false =>
        have h3 : (v != 44) = true := by simp [bne, h2]
        go_wp2_with fail
        refine (fail28 b n c a e d w0 _ hb R.out.2 R.out.1).mono ?_
        rintro e'' w'' ⟨rfl, hS2, hb2⟩
        have R3 : Hid (SC w'' b a n c n true ∧ Below w0.heap.size w0 w'') := ⟨hS2, hb2⟩
        clear hS2 hb2
        go_wp2_with fail
        go_ret
        exact ⟨false, n, true, rfl, R3.out.1, R3.out.2, by omega, by omega, (fun h => by cases h), fun _ => rfl, fun _ => rfl⟩

theorem sc_new (w : World) (a : Option Addr) (n c : Nat) (x : Int) (d : Bool) : SC (w.alloc (.cells #[.slice a n c, .int .i64 x, .bool d, .slice none 0 0] 37)) w.heap.size a n c x d := heap_alloc_new _ _

set_option maxHeartbeats 1000000 in
theorem zzPeek10 (n c : Nat) (a : Option Addr) (x e : Nat) (d : Bool) (B : Nat → Int) (v : Int) (w : World) (hn : n ≤ 1048576) (hc : Cells w a n (fun i => .int .u8 (B i))) (hs : Stop notSp B n x e) (hv : v = if e = n then 0 else B e) :
    Calls Try.prog 10 #[.slice a n c, .int .i64 x, .bool d] w fun en w' => en = .returned (.tuple #[.int .u8 v, .int .i64 e, .bool d]) ∧ Below w.heap.size w w' := by
  have HS : Hid (Cells w a n (fun i => .int .u8 (B i)) ∧ Stop notSp B n x e ∧ (v = if e = n then 0 else B e)) := ⟨hc, hs, hv⟩
  clear hc hs hv
  go_enter Try.func10, Try.ntmps10
  go_wp2_with fail
  refine (peek21 w.heap.size n c a x e d B v w _ (Nat.le_refl _) ((Below.refl _ _).alloc (Nat.le_refl _) _) (sc_new w a n c x d) hn HS.out.1 HS.out.2.1 HS.out.2.2).mono ?_
  rintro e' w1 ⟨rfl, hS, hbel⟩
  obtain ⟨c0, c1, c2⟩ := hS.cells
  have R : Hid (Below w.heap.size w w1) := hbel
  clear hS hbel
  go_wp2_with fail
  go_quiet (fail)
  go_wp2_with fail
  go_ret3
  exact ⟨rfl, R.out.trans (below_drewN _ _ _)⟩

set_option maxHeartbeats 1000000 in
theorem zzLiteral15 (n c : Nat) (a : Option Addr) (x e : Nat) (d : Bool) (B : Nat → Int) (w : World) (hn : n ≤ 1048576) (hnc : n ≤ c) (hc : Cells w a n (fun i => .int .u8 (B i))) (hs : Stop delim B n x e) (x' : Nat) (d' : Bool)
    (hok : (litOK (sh B x) (e - x) = true ∧ x' = e ∧ d' = d) ∨ (litOK (sh B x) (e - x) = false ∧ x' = n ∧ d' = true)) :
    Calls Try.prog 15 #[.slice a n c, .int .i64 x, .bool d] w fun en w' => en = .returned (.tuple #[.int .i64 x', .bool d']) ∧ Below w.heap.size w w' := by
  have HS : Hid (Cells w a n (fun i => .int .u8 (B i)) ∧ Stop delim B n x e ∧ ((litOK (sh B x) (e - x) = true ∧ x' = e ∧ d' = d) ∨ (litOK (sh B x) (e - x) = false ∧ x' = n ∧ d' = true))) := ⟨hc, hs, hok⟩
  clear hc hs hok
  go_enter Try.func15, Try.ntmps15
  go_wp2_with fail
  refine (literal22 w.heap.size n c a x e d B w _ (Nat.le_refl _) ((Below.refl _ _).alloc (Nat.le_refl _) _) (sc_new w a n c x d) hn hnc HS.out.1 HS.out.2.1 x' d' HS.out.2.2).mono ?_
  rintro e' w1 ⟨rfl, hS, hbel⟩
  obtain ⟨c0, c1, c2⟩ := hS.cells
  have R : Hid (Below w.heap.size w w1) := hbel
  clear hS hbel
  go_wp2_with fail
  go_quiet (fail)
  go_wp2_with fail
  go_ret2
  exact ⟨rfl, R.out.trans (below_drewN _ _ _)⟩

/-- What ZZMore leaves. -/
def MoreSaid (n x : Nat) (d : Bool) (w w' : World) (en : Ending) : Prop :=
  ∃ r x' d', en = .returned (.tuple #[.bool r, .int .i64 (x' : Nat), .bool d']) ∧ Below w.heap.size w w' ∧ Moved n x d r x' d'

set_option maxHeartbeats 1000000 in
theorem zzMore20 (n c : Nat) (a : Option Addr) (x : Nat) (d : Bool) (B : Nat → Int) (cl : Int) (f : Bool) (w : World) (hn : n ≤ 1048576) (hc : Cells w a n (fun i => .int .u8 (B i))) (hx : x ≤ n) (hd : d = true → x = n) (hcl : ¬ cl = 0) :
    Calls Try.prog 20 #[.slice a n c, .int .i64 x, .bool d, .int .u8 cl, .bool f] w fun en w' => MoreSaid n x d w w' en := by
  have HS : Hid (Cells w a n (fun i => .int .u8 (B i)) ∧ (d = true → x = n)) := ⟨hc, hd⟩
  clear hc hd
  go_enter Try.func20, Try.ntmps20
  go_wp2_with fail
  refine (more25 w.heap.size n c a x d B cl f w _ (Nat.le_refl _) ((Below.refl _ _).alloc (Nat.le_refl _) _) (sc_new w a n c x d) hn HS.out.1 hx HS.out.2 hcl).mono ?_
  rintro e' w1 ⟨r, x', d', rfl, hS, hbel, hmv⟩
  obtain ⟨c0, c1, c2⟩ := hS.cells
  have R : Hid (Below w.heap.size w w1 ∧ Moved n x d r x' d') := ⟨hbel, hmv⟩
  clear hS hbel hmv
  go_wp2_with fail
  go_quiet (fail)
  go_wp2_with fail
  go_ret3
  exact ⟨r, x', d', rfl, R.out.1.trans (below_drewN _ _ _), R.out.2⟩

end Go.Proofs.Qxb6602019a
