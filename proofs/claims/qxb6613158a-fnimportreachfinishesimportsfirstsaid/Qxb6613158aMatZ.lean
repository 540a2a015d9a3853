/-
  THE INPUT's MATRIX AS IT LIES, whatever numbers it holds; THE WALK of the bound's function (5).
-/
import Derived.Test.Qxb6613158aKept
import Derived.Test.Qxb6613158aLawPlain
namespace Go.Proofs.Qxb6613158a
open Go.RowKit Tj
set_option linter.unusedSimpArgs false
set_option linter.unusedVariables false

/-- A slice of slices of int. -/
structure MatZ (w : World) (a : Option Addr) (n : Nat) (Z : Nat → List Int) : Prop where
  row : ∀ i, i < n → ∃ x b c, a = some x ∧ w.cell? (x.add i) = some (.slice b (Z i).length c) ∧ (Z i).length ≤ maxLen ∧ ∀ k, k < (Z i).length → ∃ y : Addr, b = some y ∧ w.cell? (y.add k) = some (.int .i64 ((Z i).getD k 0))

theorem MatZ.below {w w' : World} {a : Option Addr} {n : Nat} {Z : Nat → List Int} (h : MatZ w a n Z) (hb : Below w.heap.size w w') : MatZ w' a n Z :=
  ⟨fun i hi => by
    obtain ⟨x, b, c, hx, hc, hl, hk⟩ := h.row i hi
    refine ⟨x, b, c, hx, (hb.cell (block_lt_of_cell hc)).trans hc, hl, fun k hk2 => ?_⟩
    obtain ⟨y, hy, hc2⟩ := hk k hk2
    exact ⟨y, hy, (hb.cell (block_lt_of_cell hc2)).trans hc2⟩⟩

/-- The same as numbers of files. -/
def toM (n : Nat) (Z : Nat → List Int) : Nat → List Nat := fun i => if i < n then (Z i).map Int.toNat else []

theorem toM_len {n : Nat} {Z : Nat → List Int} {i : Nat} (hi : i < n) : (toM n Z i).length = (Z i).length := by simp [toM, hi]
theorem toM_out {n : Nat} {Z : Nat → List Int} {i : Nat} (hi : n ≤ i) : toM n Z i = [] := by unfold toM; rw [if_neg (by omega)]

/-- Every number is one of a file. -/
def InRange (n : Nat) (Z : Nat → List Int) : Prop := ∀ i k, i < n → k < (Z i).length → 0 ≤ (Z i).getD k 0 ∧ (Z i).getD k 0 < n

theorem toM_get {n : Nat} {Z : Nat → List Int} {i k : Nat} (hi : i < n) (hk : k < (Z i).length) : (toM n Z i).getD k 0 = ((Z i).getD k 0).toNat := by
  unfold toM
  rw [if_pos hi, List.getD_eq_getElem?_getD, List.getElem?_map, List.getD_eq_getElem?_getD, List.getElem?_eq_getElem hk]
  simp

theorem MatZ.toMat {w : World} {a : Option Addr} {n : Nat} {Z : Nat → List Int} (h : MatZ w a n Z) (hr : InRange n Z) : Mat w a n (toM n Z) :=
  ⟨fun i hi => by
    obtain ⟨x, b, c, hx, hc, hl, hk⟩ := h.row i hi
    refine ⟨x, b, c, hx, by rw [toM_len hi]; exact hc, fun k hk2 => ?_⟩
    rw [toM_len hi] at hk2
    obtain ⟨y, hy, hc2⟩ := hk k hk2
    refine ⟨y, hy, ?_⟩
    rw [hc2, toM_get hi hk2, Int.toNat_of_nonneg (hr i k hi hk2).1]⟩

theorem toM_lt {n : Nat} {Z : Nat → List Int} (hr : InRange n Z) : ∀ v u, v < n → u ∈ toM n Z v → u < n := fun v u hv hu => by
  obtain ⟨k, hk, e⟩ := List.getElem_of_mem hu
  have hk2 : k < (Z v).length := by rw [← toM_len hv]; exact hk
  have h1 := toM_get hv hk2
  rw [List.getD_eq_getElem?_getD, List.getElem?_eq_getElem hk] at h1
  simp only [Option.getD_some] at h1
  have h2 := hr v k hv hk2
  rw [← e, h1]
  omega

set_option maxHeartbeats 1000000 in
set_option maxRecDepth 100000 in
theorem zz5 (a : Option Addr) (n c : Nat) (l : List ByteArray) (a2 : Option Addr) (m c2 : Nat) (Z : Nat → List Int) (w : World) (h : StrsAt w a n l) (hn : n ≤ maxLen) (h2 : MatZ w a2 m Z) (hm : m ≤ maxLen) :
    Calls Try.prog 5 #[.slice a n c, .slice a2 m c2] w fun e w' => (e = .returned (.bool false) ∨ e = .returned (.bool true)) ∧ w' = w := by
  unfold maxLen at hn hm
  by_cases hbig : 1048576 < n
  · go_enter Try.func5, Try.ntmps5
    go_wp2
    go_ret
    exact ⟨.inl rfl, rfl⟩
  go_enter Try.func5, Try.ntmps5
  go_wp2
  go_loop [5, 6] (fun z i => ∃ q k : Nat, z = .int .i64 q ∧ i = .int .i64 k ∧ k ≤ n ∧ q ≤ 1048576) (fun _ i => n - (intOf i).toNat)
  case atStart => exact ⟨n, 0, rfl, rfl, Nat.zero_le _, by omega⟩
  case round =>
    obtain ⟨q, k, rfl, rfl, hk, hq⟩ := hrel
    by_cases hlt : k < n
    · obtain ⟨x, rfl, hcx⟩ := h.cell k hlt
      have hsz := h.size k hlt
      generalize l.getD k ByteArray.empty = s at hcx hsz
      unfold maxLen at hsz
      go_wp2
      · go_ret
        exact ⟨.inl rfl, rfl⟩
      · go_ret
        exact ⟨.inl rfl, rfl⟩
      · refine ⟨⟨q + s.size, k + 1, by go_num, by go_num, by omega, by omega⟩, by simp [intOf]; omega⟩
    · by_cases hbm : 1048576 < m
      · go_wp2
        go_ret
        exact ⟨.inl rfl, rfl⟩
      by_cases hbq : 1048576 < q + m
      · go_wp2
        go_ret
        exact ⟨.inl rfl, rfl⟩
      go_wp2
      go_loop [5, 7] (fun z i => ∃ q k : Nat, z = .int .i64 q ∧ i = .int .i64 k ∧ k ≤ m ∧ q ≤ 1048576) (fun _ i => m - (intOf i).toNat)
      case atStart => exact ⟨q + m, 0, by go_num, rfl, Nat.zero_le _, by omega⟩
      case round =>
        obtain ⟨q2, k2, rfl, rfl, hk2, hq2⟩ := hrel
        by_cases hlt2 : k2 < m
        · obtain ⟨x, b, cc, rfl, hcx, hsz, _⟩ := h2.row k2 hlt2
          generalize (Z k2).length = L at hcx hsz
          unfold maxLen at hsz
          have n1 : (0 : Int) ≤ (k2 : Int) := by omega
          have n2 : (k2 : Int) < (m : Int) := by omega
          go_wp2
          · go_ret
            exact ⟨.inl rfl, rfl⟩
          · go_ret
            exact ⟨.inl rfl, rfl⟩
          · refine ⟨⟨q2 + L, k2 + 1, by go_num, by go_num, by omega, by omega⟩, by simp [intOf]; omega⟩
        · go_wp2
          go_ret
          exact ⟨.inr rfl, rfl⟩
end Go.Proofs.Qxb6613158a
