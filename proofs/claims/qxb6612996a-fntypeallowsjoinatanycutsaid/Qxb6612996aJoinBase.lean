/-
  THE PLAIN LAW of 'FnTypeAllowsJoinAtAnyCut', and its bound's function (7).
-/
import Derived.Test.Qxb6612996aBase
import Derived.Test.Qxb6612996aInsertLaw
namespace Go.Proofs.Qxb6612996a.joinAny
open Go.RowKit
open Go.Proofs.Qxb6612996a.insertAny (strs_below)
set_option linter.unusedSimpArgs false
set_option linter.unusedVariables false

def Z7 (n m : Nat) (l r : List ByteArray) (ts : ByteArray) (e : Ending) : Prop :=
  e = .returned (.bool false) ∨ (e = .returned (.bool true) ∧ n ≤ 1048576 ∧ m ≤ 1048576 ∧ (∀ j, j < n → (l.getD j ByteArray.empty).size ≤ 1048576) ∧ (∀ j, j < m → (r.getD j ByteArray.empty).size ≤ 1048576) ∧ ts.size ≤ 1048576)

set_option maxHeartbeats 2000000 in
set_option maxRecDepth 100000 in
theorem zz7 (a : Option Addr) (n c : Nat) (l : List ByteArray) (b : Option Addr) (m d : Nat) (r : List ByteArray) (ts : ByteArray) (w : World) (h : StrsAt w a n l) (hn : n ≤ maxLen) (h' : StrsAt w b m r) (hm : m ≤ maxLen) (ht : ts.size ≤ maxLen) :
    Calls Try.prog 7 #[.slice a n c, .slice b m d, .string ts] w fun e w' => Z7 n m l r ts e ∧ w' = w := by
  unfold maxLen at hn hm ht
  by_cases hbig : 1048576 < n
  · go_enter Try.func7, Try.ntmps7
    go_wp2
    go_ret
    exact ⟨.inl rfl, rfl⟩
  go_enter Try.func7, Try.ntmps7
  go_wp2
  go_loop [7, 8] (fun z i => ∃ q k : Nat, z = .int .i64 q ∧ i = .int .i64 k ∧ k ≤ n ∧ q ≤ 1048576 ∧ ∀ j, j < k → (l.getD j ByteArray.empty).size ≤ 1048576) (fun _ i => n - (intOf i).toNat)
  case atStart => exact ⟨n, 0, rfl, rfl, Nat.zero_le _, by omega, fun j hj => by omega⟩
  case round =>
    obtain ⟨q, k, rfl, rfl, hk, hq, hall⟩ := hrel
    have HA : Hid _ := hall
    clear hall
    by_cases hlt : k < n
    · obtain ⟨x, rfl, hcx⟩ := h.cell k hlt
      have hsz := h.size k hlt
      generalize hs : l.getD k ByteArray.empty = s at hcx hsz
      have HS : Hid _ := hs
      clear hs
      unfold maxLen at hsz
      go_wp2
      · go_ret
        exact ⟨.inl rfl, rfl⟩
      · go_ret
        exact ⟨.inl rfl, rfl⟩
      · refine ⟨⟨q + s.size, k + 1, by go_num, by go_num, by omega, by omega, fun j hj => ?_⟩, by simp [intOf]; omega⟩
        by_cases hj' : j = k
        · subst hj'; rw [HS.out]; omega
        · exact HA.out j (by omega)
    · obtain rfl : k = n := by omega
      by_cases hbig2 : 1048576 < m
      · go_wp2
        go_ret
        exact ⟨.inl rfl, rfl⟩
      by_cases hbig3 : 1048576 < q + m
      · go_wp2
        go_ret
        exact ⟨.inl rfl, rfl⟩
      go_wp2
      go_loop [7, 9] (fun z i => ∃ q k : Nat, z = .int .i64 q ∧ i = .int .i64 k ∧ k ≤ m ∧ q ≤ 1048576 ∧ ∀ j, j < k → (r.getD j ByteArray.empty).size ≤ 1048576) (fun _ i => m - (intOf i).toNat)
      case atStart => exact ⟨q + m, 0, by go_num, rfl, Nat.zero_le _, by omega, fun j hj => by omega⟩
      case round =>
        obtain ⟨q2, k2, rfl, rfl, hk2, hq2, hall⟩ := hrel
        have HB : Hid _ := hall
        clear hall
        by_cases hlt2 : k2 < m
        · obtain ⟨x, rfl, hcx⟩ := h'.cell k2 hlt2
          have hsz := h'.size k2 hlt2
          generalize hs : r.getD k2 ByteArray.empty = s at hcx hsz
          have HS : Hid _ := hs
          clear hs
          unfold maxLen at hsz
          go_wp2
          · go_ret
            exact ⟨.inl rfl, rfl⟩
          · go_ret
            exact ⟨.inl rfl, rfl⟩
          · refine ⟨⟨q2 + s.size, k2 + 1, by go_num, by go_num, by omega, by omega, fun j hj => ?_⟩, by simp [intOf]; omega⟩
            by_cases hj' : j = k2
            · subst hj'; rw [HS.out]; omega
            · exact HB.out j (by omega)
        · obtain rfl : k2 = m := by omega
          go_wp2
          all_goals go_ret
          all_goals first
            | exact ⟨.inl rfl, rfl⟩
            | exact ⟨.inr ⟨rfl, by omega, by omega, HA.out, HB.out, by omega⟩, rfl⟩

theorem contains_append (l r : List ByteArray) (t : ByteArray) : Lib.containsS (l ++ r) t = (Lib.containsS l t || Lib.containsS r t) := by
  rw [Bool.eq_iff_iff, Lib.containsS_iff, List.mem_append, Bool.or_eq_true, Lib.containsS_iff, Lib.containsS_iff]

/-- THE PLAIN LAW, three parts. -/
theorem whole_parts (l r : List ByteArray) (t : ByteArray) : allows (l ++ r) t = (allows l t || allows r t) := by
  simp only [allows, contains_append]
  cases Lib.containsS l t <;> cases Lib.containsS r t <;> cases Lib.containsS l numberS <;> cases Lib.containsS r numberS <;> cases decide (t = integerS) <;> rfl

theorem named (l r : List ByteArray) (t : ByteArray) : allows (l ++ t :: r) t = true := by
  have h : Lib.containsS (l ++ t :: r) t = true := by rw [Lib.containsS_iff]; simp
  simp [allows, h]

theorem widen (l : List ByteArray) : (allows l integerS || !allows l numberS) = true := by
  have hne : ¬ numberS = integerS := by intro h; have := congrArg ByteArray.size h; simp [numberS, integerS, ByteArray.size] at this
  simp only [allows]
  simp only [hne, decide_false, Bool.false_and, Bool.or_false, decide_true, Bool.true_and]
  cases Lib.containsS l numberS <;> simp

theorem get_left (l r : List ByteArray) (j : Nat) (h : j < l.length) : (l ++ r).getD j ByteArray.empty = l.getD j ByteArray.empty := by
  simp only [List.getD_eq_getElem?_getD]
  rw [List.getElem?_append_left h]

theorem get_right (l r : List ByteArray) (n j : Nat) (h : l.length = n) : (l ++ r).getD (n + j) ByteArray.empty = r.getD j ByteArray.empty := by
  subst h
  simp only [List.getD_eq_getElem?_getD]
  rw [List.getElem?_append_right (by omega), show l.length + j - l.length = j by omega]

theorem get_mid (l r : List ByteArray) (t : ByteArray) (n : Nat) (h : l.length = n) : (l ++ t :: r).getD n ByteArray.empty = t := by
  have := get_right l (t :: r) n 0 h
  simpa using this

theorem get_past (l r : List ByteArray) (t : ByteArray) (n j : Nat) (h : l.length = n) : (l ++ t :: r).getD (n + 1 + j) ByteArray.empty = r.getD j ByteArray.empty := by
  have := get_right l (t :: r) n (j + 1) h
  rw [show n + 1 + j = n + (j + 1) by omega, this]
  simp

theorem zallows_eq (a : Option Addr) (n c : Nat) (l : List ByteArray) (t : ByteArray) (w : World) (v : Bool) (hv : allows l t = v) (h : StrsAt w a n l) (hn : n ≤ maxLen) :
    Calls Try.prog 6 #[.slice a n c, .string t] w fun e w' => e = .returned (.bool v) ∧ w' = w := by
  subst hv
  exact zallows a n c l t w h hn
end Go.Proofs.Qxb6612996a.joinAny
