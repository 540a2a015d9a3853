/-
  THE BOUND's FUNCTION (10) of 'FnEntriesGetFindsInSortedList', and what the built list is good for.
-/
import Derived.Test.Qxb6613158aNewList
import Derived.LaidEqlPtr
import Derived.Lib.Builder
namespace Go.Proofs.Qxb6613158a
open Go.RowKit
set_option linter.unusedSimpArgs false
set_option linter.unusedVariables false

def Z10 (n : Nat) (l : List ByteArray) (q : ByteArray) (e : Ending) : Prop :=
  e = .returned (.bool false) ∨ (e = .returned (.bool true) ∧ n ≤ 1048576 ∧ (∀ j, j < n → (l.getD j ByteArray.empty).size ≤ 1048576) ∧ q.size ≤ 1048576)

set_option maxHeartbeats 1000000 in
set_option maxRecDepth 100000 in
theorem zz10 (a : Option Addr) (n c : Nat) (l : List ByteArray) (qs : ByteArray) (w : World) (h : StrsAt w a n l) (hn : n ≤ maxLen) (hx : qs.size ≤ maxLen) :
    Calls Try.prog 10 #[.slice a n c, .string qs] w fun e w' => Z10 n l qs e ∧ w' = w := by
  unfold maxLen at hn hx
  by_cases hbig : 1048576 < n
  · go_enter Try.func10, Try.ntmps10
    go_wp2
    go_ret
    exact ⟨.inl rfl, rfl⟩
  go_enter Try.func10, Try.ntmps10
  go_wp2
  go_loop [5, 6] (fun z i => ∃ q k : Nat, z = .int .i64 q ∧ i = .int .i64 k ∧ k ≤ n ∧ q ≤ 1048576 ∧ ∀ j, j < k → (l.getD j ByteArray.empty).size ≤ 1048576) (fun _ i => n - (intOf i).toNat)
  case atStart => exact ⟨n, 0, rfl, rfl, Nat.zero_le _, by omega, fun j hj => by omega⟩
  case round =>
    obtain ⟨q, k, rfl, rfl, hk, hq, hall⟩ := hrel
    have HA : Hid _ := hall
    clear hall
    by_cases hlt : k < n
    · obtain ⟨x, rfl, hcx⟩ := h.cell k hlt
      have hsz := h.size k hlt
      generalize hs : l.getD k ByteArray.empty = s at hcx hsz
      have HS : Hid _ := hs
      clear hs
      unfold maxLen at hsz
      go_wp2
      · go_ret
        exact ⟨.inl rfl, rfl⟩
      · go_ret
        exact ⟨.inl rfl, rfl⟩
      · refine ⟨⟨q + s.size, k + 1, by go_num, by go_num, by omega, by omega, fun j hj => ?_⟩, by simp [intOf]; omega⟩
        by_cases hj' : j = k
        · subst hj'; rw [HS.out]; omega
        · exact HA.out j (by omega)
    · obtain rfl : k = n := by omega
      go_wp2
      all_goals go_ret
      all_goals first
        | exact ⟨.inl rfl, rfl⟩
        | exact ⟨.inr ⟨rfl, by omega, HA.out, by omega⟩, rfl⟩

theorem Built.entries {w wr : World} {E n : Nat} {l : List ByteArray} {v : Value} {B : Nat → Nat} (h : Built w E n l v B wr) : ∃ a cap, EntAt wr E n a cap B (fun j => l.getD j ByteArray.empty) := by
  rcases h.row.2 with ⟨hv, h0⟩ | ⟨g, cap, cur, hv, _⟩
  · subst h0
    exact ⟨none, 0, by rw [h.list, hv], h.index, (fun j hj => absurd hj (Nat.not_lt_zero j)), (fun j hj => absurd hj (Nat.not_lt_zero j))⟩
  · refine ⟨some ⟨g, 0, none⟩, cap, by rw [h.list, hv], h.index, fun j hj => ⟨_, rfl, ?_⟩, fun j hj => (h.node j hj).cell⟩
    have hr := h.row
    rw [hv] at hr
    exact hr.cells (g := g) rfl j _ (by simp [ptrs, hj])

/-- THE LAST PLACE of q among the first k names; -1 where it is none of them. -/
def AtIs (l : List ByteArray) (q : ByteArray) (k : Nat) (z : Int) : Prop :=
  (z = -1 ∧ ∀ j, j < k → l.getD j ByteArray.empty ≠ q) ∨ ∃ i : Nat, z = i ∧ i < k ∧ l.getD i ByteArray.empty = q

theorem AtIs.zero (l : List ByteArray) (q : ByteArray) : AtIs l q 0 (-1) := .inl ⟨rfl, fun j hj => absurd hj (Nat.not_lt_zero j)⟩
theorem AtIs.hit {l : List ByteArray} {q : ByteArray} {k : Nat} (h : l.getD k ByteArray.empty = q) : AtIs l q (k + 1) (k : Nat) := .inr ⟨k, rfl, by omega, h⟩
theorem AtIs.miss {l : List ByteArray} {q : ByteArray} {k : Nat} {z : Int} (ha : AtIs l q k z) (h : l.getD k ByteArray.empty ≠ q) : AtIs l q (k + 1) z := by
  rcases ha with ⟨hz, hn⟩ | ⟨i, hz, hi, e⟩
  · refine .inl ⟨hz, fun j hj => ?_⟩
    by_cases e : j = k
    · subst e; exact h
    · exact hn j (by omega)
  · exact .inr ⟨i, hz, by omega, e⟩

theorem wrap_small (k : Nat) (h : k ≤ 4611686018427387904) : IntKind.i64.wrap (k : Int) = (k : Int) := by
  rw [IntKind.wrap_i64]
  omega

theorem info94 : (Try.prog.info? 94).isSome = true := by kernel_rfl

theorem neq_ptr (W : World) (a : Addr) : (binOp .neq 38 (.pointer (some a)) (.pointer (some a))).run Try.prog W = .ok (.bool false) W := by
  obtain ⟨j, hj⟩ := Option.isSome_iff_exists.1 info94
  exact Lib.run_neq_ptr_same W a Try.underlying38 hj

theorem eql_ptr (W : World) (a : Addr) : (binOp .eql 38 (.pointer (some a)) (.pointer (some a))).run Try.prog W = .ok (.bool true) W := by
  obtain ⟨j, hj⟩ := Option.isSome_iff_exists.1 info94
  exact run_eql_ptr_same W a Try.underlying38 hj

theorem drewN_below (B : Nat) (w : World) (n : Nat) : Below B w (w.drewN n) := ⟨rfl, rfl, rfl, Nat.le_refl _, fun _ _ => rfl⟩

theorem beq_bytes (x y : ByteArray) : (x.toList == y.toList) = decide (x = y) := by
  rw [Bool.eq_iff_iff, Lib.bytes_beq_iff]; simp

theorem rising_of (n : Nat) (l : List ByteArray) (h : ∀ j, j + 1 < n → lessB (l.getD j ByteArray.empty) (l.getD (j + 1) ByteArray.empty) = true) : Rising n (fun j => l.getD j ByteArray.empty) := fun i hi => by
  have := h i hi
  unfold lessB at this
  simpa using this
end Go.Proofs.Qxb6613158a
