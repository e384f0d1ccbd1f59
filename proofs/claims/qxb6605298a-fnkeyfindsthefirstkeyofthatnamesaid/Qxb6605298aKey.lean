/-
  The look-up: (*tomlStruct).key, ZZKey, ZZKeyAt and the getters.
-/
import Derived.Test.Qxb6605298aMake
import Derived.Deep.QuietTactic
import Derived.BigQuiet
namespace Go.Proofs.Qxb6605298a
open Go.RowKit

/-- The text that the bytes M 0, .., M (m - 1) make. -/
def textOf (M : Nat → Int) (m : Nat) : ByteArray := ((List.range m).map M).foldl (fun r n => r.push (UInt8.ofNat n.toNat)) ByteArray.empty

theorem convert_name (a : Option Addr) (m c : Nat) (M : Nat → Int) (w : World) (h : Cells w a m (fun i => .int .u8 (M i))) (hnil : a = none → m = 0) :
    (convert 28 9 (.slice a m c)).run Try.prog w = .ok (.string (textOf M m)) w := by
  rw [run_convert_bytes_string w 28 9 5 a m c Try.underlying28 Try.underlying5 Try.underlying9]
  cases a with
  | none =>
    obtain rfl := hnil rfl
    simp [Conv.bytesToString, textOf]
  | some ad =>
    refine run_bytesToString w ad m c ((List.range m).map M) ?_
    have hc : ∀ j, j < m → w.cell? (ad.add j) = some (.int .u8 (M j)) := by
      intro j hj
      obtain ⟨b, off, e, hc⟩ := h (by omega)
      obtain rfl := Option.some.inj e
      rw [Addr.add_lit]
      exact hc j hj
    have := run_loadCells (P := Try.prog) (w := w) ad m (fun i => .int .u8 (M i)) hc
    rw [this]
    simp

set_option maxHeartbeats 1000000 in
theorem key25 (bs bk n : Nat) (S : Nat → ByteArray) (B F K : Nat → Int) (a : Option Addr) (m c : Nat) (M : Nat → Int) (w : World) (hn : n ≤ 4096) (hM : Made w bs bk n S B F K)
    (h : Cells w a m (fun i => .int .u8 (M i))) (hnil : a = none → m = 0) :
    Calls Try.prog 25 #[.pointer (some ⟨bs, 0, none⟩), .slice a m c] w fun e w' => (∃ q, w' = w.drewN q) ∧
      ((e = .returned (.pointer none) ∧ ∀ i, i < n → ((S i).toList == (textOf M m).toList) = false) ∨ ∃ i, i < n ∧ e = .returned (.pointer (some ⟨bk, i * 5, none⟩)) ∧ ((S i).toList == (textOf M m).toList) = true ∧ ∀ j, j < i → ((S j).toList == (textOf M m).toList) = false) := by
  have hcv : ∀ q, (convert 28 9 (.slice a m c)).run Try.prog (w.drewN q) = .ok (.string (textOf M m)) (w.drewN q) := fun q => convert_name a m c M _ (h.later (below_drewN w q)) hnil
  obtain ⟨s, hs⟩ : ∃ s, s = textOf M m := ⟨_, rfl⟩
  rw [← hs] at hcv ⊢
  clear hs h
  have hh := hM.head
  go_enter Try.func25, Try.ntmps25
  go_wp2
  go_loopw [11] (fun i wr => ∃ k q : Nat, k ≤ n ∧ i = .int .i64 k ∧ wr = w.drewN q ∧ ∀ j, j < k → ((S j).toList == s.toList) = false) (fun i _ => n - (intOf i).toNat)
  case atStart => exact ⟨0, 0, Nat.zero_le _, rfl, rfl, fun j hj => absurd hj (by omega)⟩
  case round =>
    obtain ⟨k, q, hk, rfl, rfl, hno⟩ := hrel
    by_cases hlt : k < n
    · have hnm := hM.name k hlt
      have b00 : (0 : Int) ≤ (k : Int) := by omega
      have b01 : (k : Int) < (n : Int) := by omega
      have HN : Hid (∀ j, j < k → ((S j).toList == s.toList) = false) := hno
      clear hno hM
      go_wp2
      go_quiet (fail)
      go_wp2
      · go_ret
        exact ⟨⟨_, rfl⟩, .inr ⟨k, hlt, rfl, by assumption, HN.out⟩⟩
      · have hf : ((S k).toList == s.toList) = false := by assumption
        go_roundw
        case rel => exact ⟨k + 1, _, by omega, by go_num, rfl, fun j hj => if e : j = k then e ▸ hf else HN.out j (by omega)⟩
        case measure => simp [intOf]; omega
    · have : k = n := by omega
      subst this
      have HN : Hid (∀ j, j < k → ((S j).toList == s.toList) = false) := hno
      clear hno hM
      go_wp2
      go_ret
      exact ⟨⟨_, rfl⟩, .inl ⟨rfl, HN.out⟩⟩

theorem key17 (bs bk n : Nat) (S : Nat → ByteArray) (B F K : Nat → Int) (a : Option Addr) (m c : Nat) (M : Nat → Int) (w : World) (hn : n ≤ 4096) (hM : Made w bs bk n S B F K)
    (h : Cells w a m (fun i => .int .u8 (M i))) (hnil : a = none → m = 0) :
    Calls Try.prog 17 #[.pointer (some ⟨bs, 0, none⟩), .slice a m c] w fun e w' => (∃ q, w' = w.drewN q) ∧
      ((e = .returned (.pointer none) ∧ ∀ i, i < n → ((S i).toList == (textOf M m).toList) = false) ∨ ∃ i, i < n ∧ e = .returned (.pointer (some ⟨bk, i * 5, none⟩)) ∧ ((S i).toList == (textOf M m).toList) = true ∧ ∀ j, j < i → ((S j).toList == (textOf M m).toList) = false) := by
  go_enter Try.func17, Try.ntmps17
  go_wp2_with fail
  refine (key25 bs bk n S B F K a m c M _ hn hM h hnil).mono ?_
  rintro e w' ⟨⟨q, rfl⟩, ⟨rfl, hno⟩ | ⟨i, hi, rfl, hy, hno⟩⟩
  · have HN := hno
    have H : Hid (∀ i, i < n → ((S i).toList == (textOf M m).toList) = false) := hno
    clear hno HN
    go_wp2
    go_ret
    exact ⟨⟨q, rfl⟩, .inl ⟨rfl, H.out⟩⟩
  · have H : Hid (((S i).toList == (textOf M m).toList) = true ∧ ∀ j, j < i → ((S j).toList == (textOf M m).toList) = false) := ⟨hy, hno⟩
    clear hno hy
    go_wp2
    go_ret
    exact ⟨⟨q, rfl⟩, .inr ⟨i, hi, rfl, H.out.1, H.out.2⟩⟩

theorem at18 (bs bk n k : Nat) (w : World) (hk : k < n) (hh : w.cell? ⟨bs, 0, none⟩ = some (.slice (some ⟨bk, 0, none⟩) n n)) :
    Calls Try.prog 18 #[.pointer (some ⟨bs, 0, none⟩), .int .i64 k] w fun e w' => e = .returned (.pointer (some ⟨bk, k * 5, none⟩)) ∧ w' = w := by
  have b00 : (0 : Int) ≤ (k : Int) := by omega
  have b01 : (k : Int) < (n : Int) := by omega
  go_enter Try.func18, Try.ntmps18
  go_wp2
  go_ret
  exact ⟨rfl, rfl⟩

theorem name19 (b o : Nat) (s : ByteArray) (w : World) (hh : w.cell? ⟨b, o, none⟩ = some (.string s)) :
    Calls Try.prog 19 #[.pointer (some ⟨b, o, none⟩)] w fun e w' => e = .returned (.string s) ∧ w' = w := by
  go_enter Try.func19, Try.ntmps19
  go_wp2
  go_ret
  exact ⟨rfl, rfl⟩
theorem bit20 (b o : Nat) (x : Int) (w : World) (hh : w.cell? ⟨b, o + 1, none⟩ = some (.int .u64 x)) :
    Calls Try.prog 20 #[.pointer (some ⟨b, o, none⟩)] w fun e w' => e = .returned (.int .u64 x) ∧ w' = w := by
  go_enter Try.func20, Try.ntmps20
  go_wp2
  go_ret
  exact ⟨rfl, rfl⟩
theorem field21 (b o : Nat) (x : Int) (w : World) (hh : w.cell? ⟨b, o + 2, none⟩ = some (.int .i64 x)) :
    Calls Try.prog 21 #[.pointer (some ⟨b, o, none⟩)] w fun e w' => e = .returned (.int .i64 x) ∧ w' = w := by
  go_enter Try.func21, Try.ntmps21
  go_wp2
  go_ret
  exact ⟨rfl, rfl⟩
theorem kind22 (b o : Nat) (x : Int) (w : World) (hh : w.cell? ⟨b, o + 3, none⟩ = some (.int .i64 x)) :
    Calls Try.prog 22 #[.pointer (some ⟨b, o, none⟩)] w fun e w' => e = .returned (.int .i64 x) ∧ w' = w := by
  go_enter Try.func22, Try.ntmps22
  go_wp2
  go_ret
  exact ⟨rfl, rfl⟩

end Go.Proofs.Qxb6605298a
