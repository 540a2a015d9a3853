/-
  THE WALKS of what 'FnEntriesGetFindsInSortedList' asks: hasName (21), slices.BinarySearchFunc at []*node (20), (*entries).get (16), ZZentriesGet (13), ZZentryAt (14).
-/
import Derived.Test.Qxb6613158aShelf
import Derived.Test.Qxb6613158aLess
namespace Go.Proofs.Qxb6613158a
open Go.RowKit
set_option linter.unusedSimpArgs false
set_option linter.unusedVariables false

/-- Block E holds a block's entries, kept as a list with no index: the j-th leads to the node in block 'B j', which bears the name 'f j'. -/
structure EntAt (w : World) (E n : Nat) (a : Option Addr) (cap : Nat) (B : Nat → Nat) (f : Nat → ByteArray) : Prop where
  list : w.cell? ⟨E, 0, none⟩ = some (.slice a n cap)
  index : w.cell? ⟨E, 1, none⟩ = some (.map none)
  ptr : ∀ j, j < n → ∃ x : Addr, a = some x ∧ w.cell? (x.add j) = some (.pointer (some ⟨B j, 0, none⟩))
  name : ∀ j, j < n → w.cell? ⟨B j, 1, none⟩ = some (.string (f j))

theorem EntAt.same {w w' : World} {E n : Nat} {a : Option Addr} {cap : Nat} {B : Nat → Nat} {f : Nat → ByteArray} (h : EntAt w E n a cap B f) (hs : Same w w') : EntAt w' E n a cap B f :=
  ⟨(hs.cell _).trans h.list, (hs.cell _).trans h.index, fun j hj => by
    obtain ⟨x, hx, hc⟩ := h.ptr j hj
    exact ⟨x, hx, (hs.cell _).trans hc⟩, fun j hj => (hs.cell _).trans (h.name j hj)⟩

set_option maxRecDepth 100000 in
theorem hasName_at (b : Nat) (s q : ByteArray) (w : World) (hc : w.cell? ⟨b, 1, none⟩ = some (.string s)) :
    Calls Try.prog 21 #[.pointer (some ⟨b, 0, none⟩), .string q] w fun e w' => e = .returned (.int .i64 (cmpS s q)) ∧ w' = w := by
  go_enter Try.func21, Try.ntmps21
  go_wp2_with fail
  refine (Try.strings_Compare s q _).mono ?_
  rintro e w' ⟨rfl, rfl⟩
  go_wp2
  go_ret
  exact ⟨rfl, rfl⟩

def Found (n : Nat) (f : Nat → ByteArray) (q : ByteArray) (e : Ending) : Prop :=
  (∃ i, i < n ∧ f i = q ∧ e = .returned (.tuple #[.int .i64 (i : Nat), .bool true])) ∨ ((∀ j, j < n → f j ≠ q) ∧ ∃ i : Int, e = .returned (.tuple #[.int .i64 i, .bool false]))

set_option maxHeartbeats 1000000 in
set_option maxRecDepth 100000 in
theorem search_any (a : Option Addr) (n cap : Nat) (B : Nat → Nat) (f : Nat → ByteArray) (q : ByteArray) (w : World) (hn : n ≤ 65536) (hr : Rising n f)
    (ptr : ∀ j, j < n → ∃ x : Addr, a = some x ∧ w.cell? (x.add j) = some (.pointer (some ⟨B j, 0, none⟩))) (name : ∀ j, j < n → w.cell? ⟨B j, 1, none⟩ = some (.string (f j))) :
    Calls Try.prog 20 #[.slice a n cap, .string q, .func (.func 21) #[] #[]] w fun e w' => Found n f q e ∧ w' = w := by
  have HP : Hid _ := ptr
  have HN : Hid _ := name
  clear ptr name
  go_enter Try.func20, Try.ntmps20
  go_wp2
  go_loop [9, 10] (fun x y => ∃ i j : Nat, x = .int .i64 i ∧ y = .int .i64 j ∧ i ≤ j ∧ j ≤ n ∧ (∀ k, k < i → cmpS (f k) q < 0) ∧ (∀ k, j ≤ k → k < n → ¬ cmpS (f k) q < 0)) (fun x y => (intOf y - intOf x).toNat)
  case atStart => exact ⟨0, n, rfl, rfl, Nat.zero_le _, Nat.le_refl _, fun k hk => absurd hk (Nat.not_lt_zero k), fun k h1 h2 => by omega⟩
  case round =>
    obtain ⟨i, j, rfl, rfl, hij, hjn, hlo, hhi⟩ := hrel
    have HLO : Hid _ := hlo
    have HHI : Hid _ := hhi
    clear hlo hhi
    by_cases hlt : i < j
    · have h1 : i ≤ (i + j) / 2 := by omega
      have h2 : (i + j) / 2 < j := by omega
      obtain ⟨x, rfl, hcx⟩ := HP.out ((i + j) / 2) (by omega)
      have hnm := HN.out ((i + j) / 2) (by omega)
      go_wp2_with fail
      refine (hasName_at _ _ _ _ hnm).mono ?_
      rintro e w' ⟨rfl, rfl⟩
      by_cases hlow : cmpS (f ((i + j) / 2)) q < 0
      · go_wp2
        go_round
        case rel => exact ⟨(i + j) / 2 + 1, j, by go_num, rfl, by omega, hjn, fun k hk => hr.left (by omega) (by omega) hlow, fun k h3 h4 => by have := HHI.out k h3 h4; omega⟩
        case measure => simp [intOf]; omega
      · go_wp2
        go_round
        case rel => exact ⟨i, (i + j) / 2, rfl, by go_num, h1, by omega, HLO.out, fun k h3 h4 => hr.right h3 h4 (by omega)⟩
        case measure => simp [intOf]; omega
    · obtain rfl : i = j := by omega
      by_cases hin : i < n
      · obtain ⟨x, rfl, hcx⟩ := HP.out i hin
        have hnm := HN.out i hin
        go_wp2_with fail
        refine (hasName_at _ _ _ _ hnm).mono ?_
        rintro e w' ⟨rfl, rfl⟩
        by_cases heq : cmpS (f i) q = 0
        · have hb : (cmpS (f i) q == 0) = true := by simp [heq]
          have HE : Hid _ := heq
          clear heq
          go_wp2
          go_ret2
          exact ⟨.inl ⟨i, hin, (cmpS_zero _ _).1 HE.out, rfl⟩, rfl⟩
        · have hb : (cmpS (f i) q == 0) = false := by simp [heq]
          go_wp2
          go_ret2
          refine ⟨.inr ⟨fun k hk e => ?_, i, rfl⟩, rfl⟩
          have hz : cmpS (f k) q = 0 := (cmpS_zero _ _).2 e
          rcases Nat.lt_trichotomy k i with h | h | h
          · have := HLO.out k h; omega
          · subst h; exact heq hz
          · have h5 := hr.before h hk
            rw [e] at h5
            have := HHI.out i (Nat.le_refl _) hin
            omega
      · go_wp2
        go_ret2
        refine ⟨.inr ⟨fun k hk e => ?_, i, rfl⟩, rfl⟩
        have hz : cmpS (f k) q = 0 := (cmpS_zero _ _).2 e
        have := HLO.out k (by omega)
        omega

/-- What get answers: the entry of that name, or nil. -/
def Got (n : Nat) (B : Nat → Nat) (f : Nat → ByteArray) (q : ByteArray) (e : Ending) : Prop :=
  (∃ i, i < n ∧ f i = q ∧ e = .returned (.pointer (some ⟨B i, 0, none⟩))) ∨ ((∀ j, j < n → f j ≠ q) ∧ e = .returned (.pointer none))

set_option maxHeartbeats 1000000 in
set_option maxRecDepth 100000 in
theorem get_any (E n : Nat) (a : Option Addr) (cap : Nat) (B : Nat → Nat) (f : Nat → ByteArray) (q : ByteArray) (w : World) (hn : n ≤ 65536) (hr : Rising n f) (h : EntAt w E n a cap B f) :
    Calls Try.prog 16 #[.pointer (some ⟨E, 0, none⟩), .string q] w fun e w' => Got n B f q e ∧ w' = w := by
  have hl := h.list
  have hi := h.index
  have hmn := fun (W : World) => run_neq_map_nil (P := Try.prog) W 87 9 38 none Try.underlying87
  go_enter Try.func16, Try.ntmps16
  go_wp2_with fail
  refine (search_any a n cap B f q _ hn hr h.ptr h.name).mono ?_
  rintro e w' ⟨hF, rfl⟩
  rcases hF with ⟨i, hin, hfi, rfl⟩ | ⟨hno, i, rfl⟩
  · obtain ⟨x, rfl, hcx⟩ := h.ptr i hin
    have HFI : Hid _ := hfi
    clear hfi
    go_wp2
    go_ret
    exact ⟨.inl ⟨i, hin, HFI.out, rfl⟩, rfl⟩
  · have HNO : Hid _ := hno
    clear hno
    go_wp2
    go_ret
    exact ⟨.inr ⟨HNO.out, rfl⟩, rfl⟩

set_option maxRecDepth 100000 in
theorem zget_any (E n : Nat) (a : Option Addr) (cap : Nat) (B : Nat → Nat) (f : Nat → ByteArray) (q : ByteArray) (w : World) (hn : n ≤ 65536) (hr : Rising n f) (h : EntAt w E n a cap B f) :
    Calls Try.prog 13 #[.pointer (some ⟨E, 0, none⟩), .string q] w fun e w' => Got n B f q e ∧ w' = w := by
  go_enter Try.func13, Try.ntmps13
  go_wp2_with fail
  refine (get_any E n a cap B f q w hn hr h).mono ?_
  rintro e w' ⟨hG, rfl⟩
  rcases hG with ⟨i, hin, hfi, rfl⟩ | ⟨hno, rfl⟩
  · have HFI : Hid _ := hfi
    clear hfi
    go_wp2
    go_ret
    exact ⟨.inl ⟨i, hin, HFI.out, rfl⟩, rfl⟩
  · have HNO : Hid _ := hno
    clear hno
    go_wp2
    go_ret
    exact ⟨.inr ⟨HNO.out, rfl⟩, rfl⟩

set_option maxRecDepth 100000 in
theorem entryAt_any (E n k : Nat) (a : Option Addr) (cap : Nat) (B : Nat → Nat) (f : Nat → ByteArray) (w : World) (hn : n ≤ 65536) (hk : k < n) (h : EntAt w E n a cap B f) :
    Calls Try.prog 14 #[.pointer (some ⟨E, 0, none⟩), .int .i64 k] w fun e w' => e = .returned (.pointer (some ⟨B k, 0, none⟩)) ∧ w' = w := by
  have hl := h.list
  obtain ⟨x, rfl, hcx⟩ := h.ptr k hk
  go_enter Try.func14, Try.ntmps14
  go_wp2
  go_ret
  exact ⟨rfl, rfl⟩
end Go.Proofs.Qxb6613158a
