/-
  WHAT BOTH LAWS OF THIS SEAT STAND ON: what is told of a []string; typeAllows by its contract; the bound's function.
-/
import Derived.Test.Qxb6612996aProg
import Derived.Test.Qxb6612996aShelf
import Derived.WalkKit
import Derived.Below
import Derived.OpenShut
import Derived.WalkSpells
import Derived.WalkLawsBesides
import Derived.Deep.OwnRows
import Derived.Laws.Rows
import Derived.Laws.IdiomCopy
import Derived.Lib.SlicesS
import Derived.Lib.Hide
namespace Go.Proofs.Qxb6612996a
open Go.RowKit
set_option linter.unusedSimpArgs false
set_option linter.unusedVariables false

/-- WHAT IS TOLD OF A SLICE OF STRINGS: its elements are 'l' (its spare room is not spoken of). -/
structure StrsAt (w : World) (a : Option Addr) (n : Nat) (l : List ByteArray) : Prop where
  len : l.length = n
  cell : ∀ j, j < n → ∃ x : Addr, a = some x ∧ w.cell? (x.add j) = some (.string (l.getD j ByteArray.empty))
  size : ∀ j, j < n → (l.getD j ByteArray.empty).size ≤ maxLen

def Z5 (n : Nat) (l : List ByteArray) (xs ts : ByteArray) (e : Ending) : Prop :=
  e = .returned (.bool false) ∨ (e = .returned (.bool true) ∧ n ≤ 1048576 ∧ (∀ j, j < n → (l.getD j ByteArray.empty).size ≤ 1048576) ∧ xs.size ≤ 1048576 ∧ ts.size ≤ 1048576)

set_option maxHeartbeats 1000000 in
set_option maxRecDepth 100000 in
theorem zz5 (a : Option Addr) (n c : Nat) (l : List ByteArray) (i : Int) (xs ts : ByteArray) (w : World) (h : StrsAt w a n l) (hn : n ≤ maxLen) (hx : xs.size ≤ maxLen) (ht : ts.size ≤ maxLen) :
    Calls Try.prog 5 #[.slice a n c, .int .i64 i, .string xs, .string ts] w fun e w' => Z5 n l xs ts e ∧ w' = w := by
  unfold maxLen at hn hx ht
  by_cases hbig : 1048576 < n
  · go_enter Try.func5, Try.ntmps5
    go_wp2
    go_ret
    exact ⟨.inl rfl, rfl⟩
  go_enter Try.func5, Try.ntmps5
  go_wp2
  go_loop [9, 10] (fun z i => ∃ q k : Nat, z = .int .i64 q ∧ i = .int .i64 k ∧ k ≤ n ∧ q ≤ 1048576 ∧ ∀ j, j < k → (l.getD j ByteArray.empty).size ≤ 1048576) (fun _ i => n - (intOf i).toNat)
  case atStart => exact ⟨n, 0, rfl, rfl, Nat.zero_le _, by omega, fun j hj => by omega⟩
  case round =>
    obtain ⟨q, k, rfl, rfl, hk, hq, hall⟩ := hrel
    have HA : Hid _ := hall
    clear hall
    by_cases hlt : k < n
    · obtain ⟨x, rfl, hcx⟩ := h.cell k hlt
      have hsz := h.size k hlt
      generalize hs : l.getD k ByteArray.empty = s at hcx hsz
      have HS : Hid _ := hs
      clear hs
      unfold maxLen at hsz
      go_wp2
      · go_ret
        exact ⟨.inl rfl, rfl⟩
      · go_ret
        exact ⟨.inl rfl, rfl⟩
      · refine ⟨⟨q + s.size, k + 1, by go_num, by go_num, by omega, by omega, fun j hj => ?_⟩, by simp [intOf]; omega⟩
        by_cases hj' : j = k
        · subst hj'; rw [HS.out]; omega
        · exact HA.out j (by omega)
    · obtain rfl : k = n := by omega
      go_wp2
      all_goals go_ret
      all_goals first
        | exact ⟨.inl rfl, rfl⟩
        | exact ⟨.inr ⟨rfl, by omega, HA.out, by omega, by omega⟩, rfl⟩

theorem addr_add (b off j : Nat) : (⟨b, off, none⟩ : Addr).add j = ⟨b, off + j, none⟩ := by
  cases j <;> simp [Addr.add]

/-- slices.Contains, whatever the slice. -/
theorem contains_any (a : Option Addr) (n c : Nat) (l : List ByteArray) (t : ByteArray) (w : World) (h : StrsAt w a n l) (hn : n ≤ maxLen) :
    Calls Try.prog 9 #[.slice a n c, .string t] w fun e w' => e = .returned (.bool (Lib.containsS l t)) ∧ w' = w := by
  unfold maxLen at hn
  by_cases h0 : n = 0
  · subst h0
    have hl : l = [] := List.eq_nil_of_length_eq_zero h.len
    subst hl
    exact Try.slices_Contains_string_empty a c t w
  · obtain ⟨x, rfl, hx0⟩ := h.cell 0 (by omega)
    obtain ⟨b, off, spot⟩ := x
    have hspot : spot = none := by simpa [Addr.add] using World.cell?_spot hx0
    subst hspot
    have e := Try.slices_Contains_string b off n c l t w (by rw [h.len]; exact Nat.le_refl _) (by omega) (fun j hj => by
      obtain ⟨y, hy, hc⟩ := h.cell j (by rw [← h.len]; exact hj)
      cases hy
      rwa [addr_add] at hc)
    rwa [List.take_of_length_le (by rw [h.len]; exact Nat.le_refl _)] at e

/-- "integer" -/
def integerS : ByteArray := ⟨#[105, 110, 116, 101, 103, 101, 114]⟩
/-- "number" -/
def numberS : ByteArray := ⟨#[110, 117, 109, 98, 101, 114]⟩

/-- What typeAllows answers. -/
def allows (l : List ByteArray) (t : ByteArray) : Bool := Lib.containsS l t || (decide (t = integerS) && Lib.containsS l numberS)

theorem int_beq (t : ByteArray) : (t.toList == [105, 110, 116, 101, 103, 101, 114]) = decide (t = integerS) := by
  have h := Lib.bytes_beq_iff t integerS
  have e : integerS.toList = [105, 110, 116, 101, 103, 101, 114] := by rw [ByteArray.toList_eq]; rfl
  rw [e] at h
  rw [Bool.eq_iff_iff, h]
  simp

set_option maxRecDepth 100000 in
theorem typeAllows_any (a : Option Addr) (n c : Nat) (l : List ByteArray) (t : ByteArray) (w : World) (h : StrsAt w a n l) (hn : n ≤ maxLen) :
    Calls Try.prog 8 #[.slice a n c, .string t] w fun e w' => e = .returned (.bool (allows l t)) ∧ w' = w := by
  have hi := int_beq t
  cases h1 : Lib.containsS l t
  · by_cases h2 : t = integerS
    · have hi' : (t.toList == [105, 110, 116, 101, 103, 101, 114]) = true := by rw [hi]; simp [h2]
      have ha : allows l t = Lib.containsS l numberS := by rw [allows, h1]; simp [h2]
      rw [ha]
      have H1 : Hid _ := h1
      clear h1 ha hi h2
      go_enter Try.func8, Try.ntmps8
      go_wp2_with fail
      refine (contains_any a n c l t w h hn).mono ?_
      rintro e w' ⟨rfl, rfl⟩
      rw [H1.out]
      go_wp2_with fail
      refine (contains_any a n c l numberS _ h hn).mono ?_
      rintro e w' ⟨rfl, rfl⟩
      go_wp2
      go_ret
      exact ⟨rfl, rfl⟩
    · have hi' : (t.toList == [105, 110, 116, 101, 103, 101, 114]) = false := by rw [hi]; simp [h2]
      have ha : allows l t = false := by simp [allows, h1, h2]
      rw [ha]
      have H1 : Hid _ := h1
      clear h1 ha hi h2
      go_enter Try.func8, Try.ntmps8
      go_wp2_with fail
      refine (contains_any a n c l t w h hn).mono ?_
      rintro e w' ⟨rfl, rfl⟩
      rw [H1.out]
      go_wp2
      go_ret
      exact ⟨rfl, rfl⟩
  · have ha : allows l t = true := by simp [allows, h1]
    rw [ha]
    have H1 : Hid _ := h1
    clear h1 ha
    go_enter Try.func8, Try.ntmps8
    go_wp2_with fail
    refine (contains_any a n c l t w h hn).mono ?_
    rintro e w' ⟨rfl, rfl⟩
    rw [H1.out]
    go_wp2
    go_ret
    exact ⟨rfl, rfl⟩

set_option maxRecDepth 100000 in
theorem zallows (a : Option Addr) (n c : Nat) (l : List ByteArray) (t : ByteArray) (w : World) (h : StrsAt w a n l) (hn : n ≤ maxLen) :
    Calls Try.prog 6 #[.slice a n c, .string t] w fun e w' => e = .returned (.bool (allows l t)) ∧ w' = w := by
  go_enter Try.func6, Try.ntmps6
  go_wp2_with fail
  refine (typeAllows_any a n c l t w h hn).mono ?_
  rintro e w' ⟨rfl, rfl⟩
  go_wp2
  go_ret
  exact ⟨rfl, rfl⟩

/-- A row of the call's own, as a slice of strings. -/
theorem StrsAt.ofRow {w : World} {g n : Nat} {f : Nat → Value} {l : List ByteArray} (h : w.rowIs g 9 n f) (hl : l.length = n) (hf : ∀ j, j < n → f j = .string (l.getD j ByteArray.empty)) (hs : ∀ j, j < n → (l.getD j ByteArray.empty).size ≤ maxLen) :
    StrsAt w (some ⟨g, 0, none⟩) n l :=
  ⟨hl, fun j hj => ⟨_, rfl, by rw [addr_add, Nat.zero_add, h.cell hj, hf j hj]⟩, hs⟩

theorem info9 : (Try.prog.info? 9).map (fun i => (i.zero, i.size, i.bytes)) = some (some (.string ByteArray.empty), 1, 16) := by kernel_rfl
theorem size9 : (Try.prog.info? 9).map (·.size) = some 1 := by kernel_rfl

theorem below_setCells (B b : Nat) (hB : B ≤ b) : ∀ (vs : List Value) (o : Nat) (w w0 : World), Below B w0 w → Below B w0 (w.setCells b o vs)
  | [], _, _, _, h => h
  | v :: r, o, w, w0, h => below_setCells B b hB r (o + 1) _ w0 (h.setCell hB v)

/-- What a row holds behind many stores into it. -/
theorem rowIs_setCells {g n : Nat} {t : TypeId} : ∀ (vs : List Value) (o : Nat) (w : World) (f : Nat → Value), w.rowIs g t n f →
    ∃ f', (w.setCells g o vs).rowIs g t n f' ∧ (∀ j, j < vs.length → f' (o + j) = vs.getD j default) ∧ ∀ j, j < o → f' j = f j
  | [], o, w, f, h => ⟨f, h, (fun j hj => absurd hj (Nat.not_lt_zero j)), fun _ _ => rfl⟩
  | v :: r, o, w, f, h => by
    obtain ⟨f', h', e1, e2⟩ := rowIs_setCells r (o + 1) _ _ (h.set o v)
    refine ⟨f', h', fun j hj => ?_, fun j hj => ?_⟩
    · cases j with
      | zero => rw [Nat.add_zero, e2 o (by omega)]; simp
      | succ j => rw [show o + (j + 1) = o + 1 + j by omega, e1 j (by simpa using hj)]; simp
    · rw [e2 j (by omega), if_neg (by omega)]

/-- THE COPY: 'zzc := make([]string, len(types)); copy(zzc, types)': the run of 'copy' in the world that 'make' leaves, and what that world is. -/
theorem copy_run (a : Option Addr) (n c : Nat) (l : List ByteArray) (w : World) (h : StrsAt w a n l) :
    ∃ W, (∀ ty, (Builtin.copy_ #[22, 22] ty #[.slice (some ⟨w.heap.size, 0, none⟩) n n, .slice a n c]).run Try.prog (w.alloc (.cells (madeCells #[.string ByteArray.empty] n) 9)) = .ok (.int .i64 n) W) ∧
      StrsAt W (some ⟨w.heap.size, 0, none⟩) n l ∧ Below w.heap.size w W := by
  have hrow := World.rowIs_made w (.string ByteArray.empty) n 9
  by_cases h0 : n = 0
  · subst h0
    refine ⟨_, fun ty => run_copy_none _ 22 22 ty 9 _ _ _ _ _ _ Try.underlying22 size9 rfl, ⟨h.len, (fun j hj => absurd hj (Nat.not_lt_zero j)), h.size⟩, (Below.refl _ _).alloc (Nat.le_refl _) _⟩
  · obtain ⟨x, rfl, hx0⟩ := h.cell 0 (by omega)
    have hlt : ∀ j, j < n → (x.add j).block < w.heap.size := fun j hj => by
      obtain ⟨y, hy, hc⟩ := h.cell j hj
      cases hy
      exact block_lt_of_cell hc
    have hlen : (l.map Value.string).length = n := by rw [List.length_map, h.len]
    obtain ⟨f', hr', e1, _⟩ := rowIs_setCells (l.map Value.string) 0 _ _ hrow
    refine ⟨_, fun ty => ?_, StrsAt.ofRow hr' h.len (fun j hj => ?_) h.size, below_setCells _ _ (Nat.le_refl _) _ _ _ _ ((Below.refl _ _).alloc (Nat.le_refl _) _)⟩
    · have hr := run_copy_cells (P := Try.prog) (w.alloc (.cells (madeCells #[.string ByteArray.empty] n) 9)) 22 22 ty 9 w.heap.size 0 n n x n c (l.map Value.string) Try.underlying22 size9 (by rw [hlen]; exact (Nat.min_self n).symm)
        (fun j v hj => ?_) (fun j hj => ?_) (fun j hj => ?_) (fun v hv => ?_)
      · rw [hlen] at hr
        exact hr
      · have hjn : j < n := by have := (List.getElem?_eq_some_iff.1 hj).1; omega
        obtain ⟨y, hy, hc⟩ := h.cell j hjn
        cases hy
        have hb : (w.alloc (.cells (madeCells #[.string ByteArray.empty] n) 9)).cell? (x.add j) = w.cell? (x.add j) := ((Below.refl w.heap.size w).alloc (Nat.le_refl _) _).cell (hlt j hjn)
        rw [hb, hc]
        rw [List.getElem?_map] at hj
        have hjl : j < l.length := by rw [h.len]; exact hjn
        rw [List.getElem?_eq_getElem hjl] at hj
        simp only [Option.map_some, Option.some.injEq] at hj
        rw [← hj, List.getD_eq_getElem?_getD, List.getElem?_eq_getElem hjl]
        rfl
      · rw [Nat.zero_add, hrow.cell (by omega)]; rfl
      · exact hrow.frozen _
      · obtain ⟨s, _, rfl⟩ := List.mem_map.1 hv
        rfl
    · have := e1 j (by omega)
      rw [Nat.zero_add] at this
      rw [this, List.getD_eq_getElem?_getD, List.getD_eq_getElem?_getD, List.getElem?_map]
      have hjl : j < l.length := by rw [h.len]; exact hj
      rw [List.getElem?_eq_getElem hjl]
      rfl
end Go.Proofs.Qxb6612996a
