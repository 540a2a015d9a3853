/-
  THE PLAIN LAW of 'FnTypeAllowsInsertAnyPlace'.
-/
import Derived.Test.Qxb6612996aBase
namespace Go.Proofs.Qxb6612996a.insertAny
open Go.RowKit
set_option linter.unusedSimpArgs false
set_option linter.unusedVariables false

theorem strs_below {w w' : World} {a : Option Addr} {n : Nat} {l : List ByteArray} (h : StrsAt w a n l) (hb : Below w.heap.size w w') : StrsAt w' a n l :=
  ⟨h.len, fun j hj => by
    obtain ⟨x, hx, hc⟩ := h.cell j hj
    exact ⟨x, hx, (hb.cell (block_lt_of_cell hc)).trans hc⟩, h.size⟩

/-- l with x put in at place i. -/
def put (l : List ByteArray) (i : Nat) (x : ByteArray) : List ByteArray := l.take i ++ x :: l.drop i

theorem put_length (l : List ByteArray) (i : Nat) (x : ByteArray) (h : i ≤ l.length) : (put l i x).length = l.length + 1 := by
  simp [put]; omega

theorem put_lo (l : List ByteArray) (i j : Nat) (x : ByteArray) (h : i ≤ l.length) (hj : j < i) : (put l i x).getD j ByteArray.empty = l.getD j ByteArray.empty := by
  simp only [put, List.getD_eq_getElem?_getD]
  rw [List.getElem?_append_left (by simp; omega), List.getElem?_take_of_lt hj]

theorem put_at (l : List ByteArray) (i : Nat) (x : ByteArray) (h : i ≤ l.length) : (put l i x).getD i ByteArray.empty = x := by
  simp only [put, List.getD_eq_getElem?_getD]
  rw [List.getElem?_append_right (by simp; omega)]
  simp [Nat.min_eq_left h]

theorem put_hi (l : List ByteArray) (i j : Nat) (x : ByteArray) (h : i ≤ l.length) (hj : i ≤ j) : (put l i x).getD (j + 1) ByteArray.empty = l.getD j ByteArray.empty := by
  simp only [put, List.getD_eq_getElem?_getD]
  rw [List.getElem?_append_right (by simp; omega)]
  simp only [List.length_take, Nat.min_eq_left h]
  rw [show j + 1 - i = (j - i) + 1 by omega, List.getElem?_cons_succ, List.getElem?_drop, show i + (j - i) = j by omega]

theorem mem_put (l : List ByteArray) (i : Nat) (x t : ByteArray) : t ∈ put l i x ↔ t ∈ l ∨ x = t := by
  rw [put, List.mem_append, List.mem_cons]
  have h : t ∈ l ↔ t ∈ l.take i ∨ t ∈ l.drop i := by rw [← List.mem_append, List.take_append_drop]
  rw [h]
  constructor
  · rintro (h | rfl | h)
    · exact .inl (.inl h)
    · exact .inr rfl
    · exact .inl (.inr h)
  · rintro ((h | h) | rfl)
    · exact .inl h
    · exact .inr (.inr h)
    · exact .inr (.inl rfl)

theorem contains_put (l : List ByteArray) (i : Nat) (x t : ByteArray) : Lib.containsS (put l i x) t = (Lib.containsS l t || decide (x = t)) := by
  rw [Bool.eq_iff_iff, Lib.containsS_iff, mem_put, Bool.or_eq_true, Lib.containsS_iff, decide_eq_true_eq]

/-- THE PLAIN LAW. -/
theorem allows_put (l : List ByteArray) (i : Nat) (x t : ByteArray) : allows (put l i x) t = (allows l t || decide (x = t) || (decide (t = integerS) && decide (x = numberS))) := by
  simp only [allows, contains_put]
  cases Lib.containsS l t <;> cases Lib.containsS l numberS <;> cases decide (x = t) <;> cases decide (t = integerS) <;> cases decide (x = numberS) <;> rfl

theorem beq_dec (x y : ByteArray) : (x.toList == y.toList) = decide (x = y) := by
  rw [Bool.eq_iff_iff, Lib.bytes_beq_iff]; simp

theorem num_beq (t : ByteArray) : (t.toList == [110, 117, 109, 98, 101, 114]) = decide (t = numberS) := by
  have h := Lib.bytes_beq_iff t numberS
  have e : numberS.toList = [110, 117, 109, 98, 101, 114] := by rw [ByteArray.toList_eq]; rfl
  rw [e] at h
  rw [Bool.eq_iff_iff, h]
  simp
end Go.Proofs.Qxb6612996a.insertAny
