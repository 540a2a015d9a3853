/-
  THE WALK of slices.rotateCmpFunc (46) at the imports' pointers.
-/
import Derived.Test.Qxb6613158aStable
namespace Go.Proofs.Qxb6613158a
open Go.RowKit
set_option linter.unusedSimpArgs false
set_option linter.unusedVariables false
variable {w0 W W' : World} {g cap n : Nat} {F0 F : Nat → Option Addr} {bx : Value}

set_option maxHeartbeats 4000000 in
set_option maxRecDepth 100000 in
theorem rotate_any (a m b cd : Nat) (d : Value) (w : World) (hS : SW w0 g cap n F0 w) (hn : n ≤ cap) (hm : n ≤ 1048576) (ham : a < m) (hmb : m < b) (hb : b ≤ n) :
    Calls Try.prog 46 #[.slice (some ⟨g, 0, none⟩) n cd, .int .i64 a, .int .i64 m, .int .i64 b, d] w fun e w' => e = .returned (.tuple #[]) ∧ SW w0 g cap n F0 w' := by
  have HS : Hid _ := hS
  clear hS
  have e1 : (m : Int) - (a : Int) = ((m - a : Nat) : Int) := by omega
  have e2 : (b : Int) - (m : Int) = ((b - m : Nat) : Int) := by omega
  go_enter Try.func46, Try.ntmps46
  go_wp2
  go_loopg [10, 11] (b - a) (fun gk x y wr => ∃ i j : Nat, x = .int .i64 i ∧ y = .int .i64 j ∧ 1 ≤ i ∧ 1 ≤ j ∧ i ≤ m ∧ m + j ≤ n ∧ i + j ≤ gk ∧ Hid (SW w0 g cap n F0 wr))
  case atStart => exact ⟨m - a, b - m, by rw [← e1], by rw [← e2], by omega, by omega, by omega, by omega, by omega, HS⟩
  case round =>
    clear HS e1 e2
    obtain ⟨i, j, rfl, rfl, hi, hj, him, hjn, hgk, HS⟩ := hrel
    have e0 : (m : Int) - (i : Int) = ((m - i : Nat) : Int) := by omega
    rcases Nat.lt_trichotomy i j with hlt | heq | hgt
    · have h1 : ¬ ((i : Int) = (j : Int)) := by omega
      have h2 : ¬ ((j : Int) < (i : Int)) := by omega
      have e3 : (m : Int) + (j : Int) - (i : Int) = ((m + j - i : Nat) : Int) := by omega
      have e4 : (j : Int) - (i : Int) = ((j - i : Nat) : Int) := by omega
      go_wp2_with (go_at_call 59; refine (swapRange_any (m - i) (m + j - i) i cd d _ HS.out hn hm (by omega) (by omega)).mono ?_; rintro _ w2 ⟨rfl, hS2⟩)
      have HS2 : Hid _ := hS2
      clear hS2 HS
      go_wp2
      go_roundg (i + j - i)
      case measure => omega
      case rel => exact ⟨i, j - i, rfl, by rw [← e4], by omega, by omega, by omega, by omega, by omega, HS2⟩
    · subst heq
      go_wp2_with (go_at_call 59; refine (swapRange_any (m - i) m i cd d _ HS.out hn hm (by omega) (by omega)).mono ?_; rintro _ w2 ⟨rfl, hS2⟩)
      go_end0
      exact ⟨rfl, hS2⟩
    · have h1 : ¬ ((i : Int) = (j : Int)) := by omega
      have h2 : ((j : Int) < (i : Int)) := by omega
      have e4 : (i : Int) - (j : Int) = ((i - j : Nat) : Int) := by omega
      go_wp2_with (go_at_call 59; refine (swapRange_any (m - i) m j cd d _ HS.out hn hm (by omega) (by omega)).mono ?_; rintro _ w2 ⟨rfl, hS2⟩)
      have HS2 : Hid _ := hS2
      clear hS2 HS
      go_wp2
      go_roundg (i - j + j)
      case measure => omega
      case rel => exact ⟨i - j, j, by rw [← e4], rfl, by omega, by omega, by omega, by omega, by omega, HS2⟩
end Go.Proofs.Qxb6613158a
