/-
  THE PLAIN MATHEMATICS of 'FnEntriesGetFindsInSortedList': the order of byte strings, and a sorted list searched by halves. No Go in sight.
-/
import Derived.Lib.Bytealg
import Derived.Lib.SlicesS
namespace Go.Proofs.Qxb6613158a
set_option linter.unusedVariables false

/-- strings.Compare of two strings. -/
def cmpS (a b : ByteArray) : Int := Lib.compareBytes a.data.toList b.data.toList

theorem cmp_self : ∀ (a : List UInt8), Lib.compareBytes a a = 0
  | [] => rfl
  | x :: a => by
    have h : ¬ x < x := by simp
    rw [Lib.compareBytes, if_neg h, if_neg h]
    exact cmp_self a

theorem cmp_zero : ∀ (a b : List UInt8), Lib.compareBytes a b = 0 → a = b
  | [], [], _ => rfl
  | [], _ :: _, h => by simp [Lib.compareBytes] at h
  | _ :: _, [], h => by simp [Lib.compareBytes] at h
  | x :: a, y :: b, h => by
    rw [Lib.compareBytes] at h
    by_cases h1 : x < y
    · rw [if_pos h1] at h; omega
    · rw [if_neg h1] at h
      by_cases h2 : y < x
      · rw [if_pos h2] at h; omega
      · rw [if_neg h2] at h
        have e : x = y := UInt8.le_antisymm (UInt8.not_lt.1 h2) (UInt8.not_lt.1 h1)
        rw [e, cmp_zero a b h]

theorem cmp_range : ∀ (a b : List UInt8), -1 ≤ Lib.compareBytes a b ∧ Lib.compareBytes a b ≤ 1
  | [], [] => by simp [Lib.compareBytes]
  | [], _ :: _ => by simp [Lib.compareBytes]
  | _ :: _, [] => by simp [Lib.compareBytes]
  | x :: a, y :: b => by
    rw [Lib.compareBytes]
    split
    · omega
    · split
      · omega
      · exact cmp_range a b

theorem cmp_trans : ∀ (a b c : List UInt8), Lib.compareBytes a b < 0 → Lib.compareBytes b c < 0 → Lib.compareBytes a c < 0
  | [], [], _, h, _ => by simp [Lib.compareBytes] at h
  | [], _ :: _, [], _, h => by simp [Lib.compareBytes] at h
  | [], _ :: _, _ :: _, _, _ => by simp [Lib.compareBytes]
  | _ :: _, [], _, h, _ => by simp [Lib.compareBytes] at h
  | _ :: _, _ :: _, [], _, h => by simp [Lib.compareBytes] at h
  | x :: a, y :: b, z :: c, h1, h2 => by
    rw [Lib.compareBytes] at h1 h2 ⊢
    by_cases xy : x < y
    · by_cases yz : y < z
      · rw [if_pos (UInt8.lt_trans xy yz)]; omega
      · rw [if_neg yz] at h2
        by_cases zy : z < y
        · rw [if_pos zy] at h2; omega
        · have e : y = z := UInt8.le_antisymm (UInt8.not_lt.1 zy) (UInt8.not_lt.1 yz)
          rw [← e, if_pos xy]; omega
    · rw [if_neg xy] at h1
      by_cases yx : y < x
      · rw [if_pos yx] at h1; omega
      · rw [if_neg yx] at h1
        have e : x = y := UInt8.le_antisymm (UInt8.not_lt.1 yx) (UInt8.not_lt.1 xy)
        subst e
        by_cases yz : x < z
        · rw [if_pos yz]; omega
        · rw [if_neg yz] at h2 ⊢
          by_cases zy : z < x
          · rw [if_pos zy] at h2; omega
          · rw [if_neg zy] at h2 ⊢
            exact cmp_trans a b c h1 h2

theorem cmpS_zero (a b : ByteArray) : cmpS a b = 0 ↔ a = b := by
  constructor
  · intro h
    exact ByteArray.ext (Array.toList_inj.1 (cmp_zero _ _ h))
  · rintro rfl
    exact cmp_self _

theorem cmpS_trans {a b c : ByteArray} (h1 : cmpS a b < 0) (h2 : cmpS b c < 0) : cmpS a c < 0 := cmp_trans _ _ _ h1 h2

theorem cmpS_range (a b : ByteArray) : -1 ≤ cmpS a b ∧ cmpS a b ≤ 1 := cmp_range _ _

/-- Behind a common head of k bytes. -/
theorem cmp_drop : ∀ (k : Nat) (a b : List UInt8), k ≤ a.length → k ≤ b.length → (∀ j, j < k → a.getD j 0 = b.getD j 0) → Lib.compareBytes a b = Lib.compareBytes (a.drop k) (b.drop k)
  | 0, a, b, _, _, _ => by simp
  | k + 1, [], _, h, _, _ => by simp at h
  | k + 1, _ :: _, [], _, h, _ => by simp at h
  | k + 1, x :: a, y :: b, h1, h2, h => by
    have e : x = y := by simpa using h 0 (by omega)
    subst e
    have hx : ¬ x < x := by simp
    rw [Lib.compareBytes, if_neg hx, if_neg hx, List.drop_succ_cons, List.drop_succ_cons]
    exact cmp_drop k a b (by simpa using h1) (by simpa using h2) (fun j hj => by simpa using h (j + 1) (by omega))

/-- The two part at byte k. -/
theorem cmp_at (k : Nat) (a b : List UInt8) (h1 : k < a.length) (h2 : k < b.length) (h : ∀ j, j < k → a.getD j 0 = b.getD j 0) (hne : a.getD k 0 ≠ b.getD k 0) : (Lib.compareBytes a b < 0 ↔ a.getD k 0 < b.getD k 0) := by
  rw [cmp_drop k a b (by omega) (by omega) h]
  rw [List.drop_eq_getElem_cons h1, List.drop_eq_getElem_cons h2, Lib.compareBytes]
  have e1 : a.getD k 0 = a[k] := by rw [List.getD_eq_getElem?_getD, List.getElem?_eq_getElem h1]; rfl
  have e2 : b.getD k 0 = b[k] := by rw [List.getD_eq_getElem?_getD, List.getElem?_eq_getElem h2]; rfl
  rw [e1, e2] at hne ⊢
  by_cases hlt : a[k] < b[k]
  · rw [if_pos hlt]; simp [hlt]
  · rw [if_neg hlt]
    have hgt : b[k] < a[k] := by
      rcases UInt8.lt_or_eq_of_le (UInt8.not_lt.1 hlt) with h | h
      · exact h
      · exact absurd h.symm hne
    rw [if_pos hgt]; simp [hlt]

/-- One is the other's head. -/
theorem cmp_short (a b : List UInt8) (k : Nat) (hk : k = a.length ∨ k = b.length) (h1 : k ≤ a.length) (h2 : k ≤ b.length) (h : ∀ j, j < k → a.getD j 0 = b.getD j 0) : (Lib.compareBytes a b < 0 ↔ a.length < b.length) := by
  rw [cmp_drop k a b h1 h2 h]
  rcases hk with rfl | rfl
  · rw [List.drop_length]
    by_cases hl : a.length < b.length
    · rw [List.drop_eq_getElem_cons hl]
      simp [Lib.compareBytes, hl]
    · rw [List.drop_eq_nil_of_le (by omega)]
      simp [Lib.compareBytes, hl]
  · rw [List.drop_length]
    by_cases hl : b.length < a.length
    · rw [List.drop_eq_getElem_cons hl]
      simp only [Lib.compareBytes]
      omega
    · rw [List.drop_eq_nil_of_le (by omega)]
      simp only [Lib.compareBytes]
      omega

/-- Every name is before the next. -/
def Rising (n : Nat) (f : Nat → ByteArray) : Prop := ∀ i, i + 1 < n → cmpS (f i) (f (i + 1)) < 0

theorem Rising.lt {n : Nat} {f : Nat → ByteArray} (h : Rising n f) : ∀ (d i : Nat), i + d + 1 < n → cmpS (f i) (f (i + d + 1)) < 0
  | 0, i, hi => h i hi
  | d + 1, i, hi => cmpS_trans (Rising.lt h d i (by omega)) (h (i + d + 1) hi)

theorem Rising.before {n : Nat} {f : Nat → ByteArray} (h : Rising n f) {i j : Nat} (hij : i < j) (hj : j < n) : cmpS (f i) (f j) < 0 := by
  obtain ⟨d, rfl⟩ : ∃ d, j = i + d + 1 := ⟨j - i - 1, by omega⟩
  exact h.lt d i hj

/-- Left of a name that is before q every name is. -/
theorem Rising.left {n : Nat} {f : Nat → ByteArray} (h : Rising n f) {k m : Nat} {q : ByteArray} (hk : k ≤ m) (hm : m < n) (hq : cmpS (f m) q < 0) : cmpS (f k) q < 0 := by
  by_cases e : k = m
  · subst e; exact hq
  · exact cmpS_trans (h.before (by omega) hm) hq

/-- Right of a name that is not before q none is. -/
theorem Rising.right {n : Nat} {f : Nat → ByteArray} (h : Rising n f) {k m : Nat} {q : ByteArray} (hk : m ≤ k) (hkn : k < n) (hq : ¬ cmpS (f m) q < 0) : ¬ cmpS (f k) q < 0 := fun hc => hq (h.left hk hkn hc)

/-- No name stands twice. -/
theorem Rising.inj {n : Nat} {f : Nat → ByteArray} (h : Rising n f) {i j : Nat} (hi : i < n) (hj : j < n) (e : f i = f j) : i = j := by
  rcases Nat.lt_trichotomy i j with hlt | heq | hgt
  · have := h.before hlt hj; rw [e, (cmpS_zero _ _).2 rfl] at this; omega
  · exact heq
  · have := h.before hgt hi; rw [e, (cmpS_zero _ _).2 rfl] at this; omega
end Go.Proofs.Qxb6613158a
