/-
  THE PLAIN LAW: one more makes the decimal numeral one digit longer just at a power of ten, 10 or more; AND THE WALK of zzPowerOfTenAboveOne (5), which tells those powers.
-/
import Derived.Test.Qxb6612993aDoorProg
import Derived.Lib.ItoaNum
import Derived.WalkKit
import Derived.Below
namespace Go.Proofs.Qxb6612993aDoor
open Go.RowKit
set_option linter.unusedSimpArgs false
set_option linter.unusedVariables false

/-- n is a power of ten, 10 or more. -/
def IsPow (n : Nat) : Prop := ∃ k, 1 ≤ k ∧ n = 10 ^ k

theorem pow_lt_pow {a b : Nat} (h : a < b) : 10 ^ a < 10 ^ b := Nat.pow_lt_pow_right (by omega) h
theorem pow_le_pow {a b : Nat} (h : a ≤ b) : 10 ^ a ≤ 10 ^ b := Nat.pow_le_pow_right (by omega) h

theorem nDigits_low : ∀ (d u : Nat), Lib.nDigits u = d + 1 → 1 ≤ u → 10 ^ d ≤ u
  | 0, u, _, h => by simpa using h
  | d + 1, u, hd, h => by
    by_cases h10 : u < 10
    · rw [Lib.nDigits_small h10] at hd; omega
    · rw [Lib.nDigits_big h10] at hd
      have := nDigits_low d (u / 10) (by omega) (by omega)
      rw [Nat.pow_succ]
      omega

theorem nDigits_high : ∀ (d u : Nat), Lib.nDigits u = d + 1 → u < 10 ^ (d + 1)
  | 0, u, hd => by
    by_cases h10 : u < 10
    · simpa using h10
    · rw [Lib.nDigits_big h10] at hd
      have := Lib.nDigits_pos (u / 10)
      omega
  | d + 1, u, hd => by
    by_cases h10 : u < 10
    · have : 10 ^ 1 ≤ 10 ^ (d + 1 + 1) := pow_le_pow (by omega)
      omega
    · rw [Lib.nDigits_big h10] at hd
      have := nDigits_high d (u / 10) (by omega)
      rw [Nat.pow_succ]
      omega

theorem grow_yes (m : Nat) (h : IsPow (m + 1)) : Lib.nDigits (m + 1) = Lib.nDigits m + 1 := by
  obtain ⟨k, hk, e⟩ := h
  obtain ⟨j, rfl⟩ : ∃ j, k = j + 1 := ⟨k - 1, by omega⟩
  have h1 := Lib.nDigits_unique (j + 1) (m + 1) (by omega) (by rw [e]; exact pow_lt_pow (by omega))
  have hlt : 10 ^ j < 10 ^ (j + 1) := pow_lt_pow (by omega)
  have h2 := Lib.nDigits_unique j m (by omega) (by omega)
  omega

theorem grow_no (m : Nat) (h : ¬ IsPow (m + 1)) : Lib.nDigits (m + 1) = Lib.nDigits m := by
  by_cases h0 : m = 0
  · subst h0
    rw [Lib.nDigits_small (by omega), Lib.nDigits_small (by omega)]
  · obtain ⟨d, hd⟩ : ∃ d, Lib.nDigits m = d + 1 := ⟨Lib.nDigits m - 1, by have := Lib.nDigits_pos m; omega⟩
    have hl := nDigits_low d m hd (by omega)
    have hh := nDigits_high d m hd
    have hne : m + 1 ≠ 10 ^ (d + 1) := fun e => h ⟨d + 1, by omega, e⟩
    rw [hd]
    exact Lib.nDigits_unique d (m + 1) (by omega) (by omega)

theorem nDigits_ge1 (m : Nat) : 1 ≤ Lib.nDigits m := Lib.nDigits_pos m

/-- What zzPowerOfTenAboveOne answers. -/
def Told (n : Nat) (e : Ending) : Prop := (IsPow n ∧ e = .returned (.bool true)) ∨ (¬ IsPow n ∧ e = .returned (.bool false))

set_option maxHeartbeats 400000 in
set_option maxRecDepth 100000 in
theorem pow_any (n : Nat) (hn : n ≤ 1048577) (w : World) :
    Calls Tryd.prog 5 #[.int .i64 n] w fun e w' => Told n e ∧ w' = w := by
  go_enter Tryd.func5, Tryd.ntmps5
  go_wp2
  go_loop [3] (fun p => ∃ q k : Nat, p = .int .i64 q ∧ 1 ≤ k ∧ q = 10 ^ k ∧ q ≤ 10485770 ∧ ∀ j, 1 ≤ j → j < k → n ≠ 10 ^ j) (fun p => 1048578 - (intOf p).toNat)
  case atStart => exact ⟨10, 1, rfl, by omega, rfl, by omega, fun j h1 h2 => by omega⟩
  case round =>
    obtain ⟨q, k, rfl, hk, hq, hb, hno⟩ := hrel
    have hpos : 0 < q := by rw [hq]; exact Nat.pos_of_ne_zero (by simp)
    have HQ : Hid _ := hq
    have HN : Hid _ := hno
    clear hq hno
    by_cases hle : q ≤ n
    · by_cases he : q = n
      · subst he
        go_wp2
        go_ret
        exact ⟨.inl ⟨⟨k, hk, HQ.out⟩, rfl⟩, rfl⟩
      · have he' : ((q : Int) == (n : Int)) = false := beq_eq_false_iff_ne.2 (by omega)
        go_wp2
        go_round
        case rel => exact ⟨q * 10, k + 1, by go_num, by omega, by rw [HQ.out, Nat.pow_succ], by omega, fun j h1 h2 => by
          by_cases hj : j = k
          · subst hj; rw [← HQ.out]; omega
          · exact HN.out j h1 (by omega)⟩
        case measure => simp [intOf]; omega
    · go_wp2
      go_ret
      refine ⟨.inr ⟨fun ⟨j, h1, h2⟩ => ?_, rfl⟩, rfl⟩
      by_cases hj : j < k
      · exact HN.out j h1 hj h2
      · have := pow_le_pow (a := k) (b := j) (by omega)
        rw [← HQ.out, ← h2] at this
        omega
end Go.Proofs.Qxb6612993aDoor
