/-
  WHAT IS TOLD OF A []string, and its copy ('make', 'copy'), for both laws of this seat.
-/
import Derived.Test.Qxb6613158aProg
import Derived.WalkKit
import Derived.Below
import Derived.OpenShut
import Derived.WalkSpells
import Derived.WalkLawsBesides
import Derived.Deep.OwnRows
import Derived.Laws.Rows
import Derived.Laws.IdiomCopy
import Derived.Lib.Hide
namespace Go.Proofs.Qxb6613158a
open Go.RowKit
set_option linter.unusedSimpArgs false
set_option linter.unusedVariables false

/-- WHAT IS TOLD OF A SLICE OF STRINGS: its elements are 'l' (its spare room is not spoken of). -/
structure StrsAt (w : World) (a : Option Addr) (n : Nat) (l : List ByteArray) : Prop where
  len : l.length = n
  cell : ∀ j, j < n → ∃ x : Addr, a = some x ∧ w.cell? (x.add j) = some (.string (l.getD j ByteArray.empty))
  size : ∀ j, j < n → (l.getD j ByteArray.empty).size ≤ maxLen

theorem addr_add (b off j : Nat) : (⟨b, off, none⟩ : Addr).add j = ⟨b, off + j, none⟩ := by
  cases j <;> simp [Addr.add]

/-- A row of the call's own, as a slice of strings. -/
theorem StrsAt.ofRow {w : World} {g n : Nat} {f : Nat → Value} {l : List ByteArray} (h : w.rowIs g 9 n f) (hl : l.length = n) (hf : ∀ j, j < n → f j = .string (l.getD j ByteArray.empty)) (hs : ∀ j, j < n → (l.getD j ByteArray.empty).size ≤ maxLen) :
    StrsAt w (some ⟨g, 0, none⟩) n l :=
  ⟨hl, fun j hj => ⟨_, rfl, by rw [addr_add, Nat.zero_add, h.cell hj, hf j hj]⟩, hs⟩

theorem info9 : (Try.prog.info? 9).map (fun i => (i.zero, i.size, i.bytes)) = some (some (.string ByteArray.empty), 1, 16) := by kernel_rfl
theorem size9 : (Try.prog.info? 9).map (·.size) = some 1 := by kernel_rfl

theorem below_setCells (B b : Nat) (hB : B ≤ b) : ∀ (vs : List Value) (o : Nat) (w w0 : World), Below B w0 w → Below B w0 (w.setCells b o vs)
  | [], _, _, _, h => h
  | v :: r, o, w, w0, h => below_setCells B b hB r (o + 1) _ w0 (h.setCell hB v)

/-- What a row holds behind many stores into it. -/
theorem rowIs_setCells {g n : Nat} {t : TypeId} : ∀ (vs : List Value) (o : Nat) (w : World) (f : Nat → Value), w.rowIs g t n f →
    ∃ f', (w.setCells g o vs).rowIs g t n f' ∧ (∀ j, j < vs.length → f' (o + j) = vs.getD j default) ∧ ∀ j, j < o → f' j = f j
  | [], o, w, f, h => ⟨f, h, (fun j hj => absurd hj (Nat.not_lt_zero j)), fun _ _ => rfl⟩
  | v :: r, o, w, f, h => by
    obtain ⟨f', h', e1, e2⟩ := rowIs_setCells r (o + 1) _ _ (h.set o v)
    refine ⟨f', h', fun j hj => ?_, fun j hj => ?_⟩
    · cases j with
      | zero => rw [Nat.add_zero, e2 o (by omega)]; simp
      | succ j => rw [show o + (j + 1) = o + 1 + j by omega, e1 j (by simpa using hj)]; simp
    · rw [e2 j (by omega), if_neg (by omega)]

/-- THE COPY: 'zzc := make([]string, len(types)); copy(zzc, types)': the run of 'copy' in the world that 'make' leaves, and what that world is. -/
theorem copy_run (a : Option Addr) (n c : Nat) (l : List ByteArray) (w : World) (h : StrsAt w a n l) :
    ∃ W, (∀ ty, (Builtin.copy_ #[22, 22] ty #[.slice (some ⟨w.heap.size, 0, none⟩) n n, .slice a n c]).run Try.prog (w.alloc (.cells (madeCells #[.string ByteArray.empty] n) 9)) = .ok (.int .i64 n) W) ∧
      StrsAt W (some ⟨w.heap.size, 0, none⟩) n l ∧ Below w.heap.size w W := by
  have hrow := World.rowIs_made w (.string ByteArray.empty) n 9
  by_cases h0 : n = 0
  · subst h0
    refine ⟨_, fun ty => run_copy_none _ 22 22 ty 9 _ _ _ _ _ _ Try.underlying22 size9 rfl, ⟨h.len, (fun j hj => absurd hj (Nat.not_lt_zero j)), h.size⟩, (Below.refl _ _).alloc (Nat.le_refl _) _⟩
  · obtain ⟨x, rfl, hx0⟩ := h.cell 0 (by omega)
    have hlt : ∀ j, j < n → (x.add j).block < w.heap.size := fun j hj => by
      obtain ⟨y, hy, hc⟩ := h.cell j hj
      cases hy
      exact block_lt_of_cell hc
    have hlen : (l.map Value.string).length = n := by rw [List.length_map, h.len]
    obtain ⟨f', hr', e1, _⟩ := rowIs_setCells (l.map Value.string) 0 _ _ hrow
    refine ⟨_, fun ty => ?_, StrsAt.ofRow hr' h.len (fun j hj => ?_) h.size, below_setCells _ _ (Nat.le_refl _) _ _ _ _ ((Below.refl _ _).alloc (Nat.le_refl _) _)⟩
    · have hr := run_copy_cells (P := Try.prog) (w.alloc (.cells (madeCells #[.string ByteArray.empty] n) 9)) 22 22 ty 9 w.heap.size 0 n n x n c (l.map Value.string) Try.underlying22 size9 (by rw [hlen]; exact (Nat.min_self n).symm)
        (fun j v hj => ?_) (fun j hj => ?_) (fun j hj => ?_) (fun v hv => ?_)
      · rw [hlen] at hr
        exact hr
      · have hjn : j < n := by have := (List.getElem?_eq_some_iff.1 hj).1; omega
        obtain ⟨y, hy, hc⟩ := h.cell j hjn
        cases hy
        have hb : (w.alloc (.cells (madeCells #[.string ByteArray.empty] n) 9)).cell? (x.add j) = w.cell? (x.add j) := ((Below.refl w.heap.size w).alloc (Nat.le_refl _) _).cell (hlt j hjn)
        rw [hb, hc]
        rw [List.getElem?_map] at hj
        have hjl : j < l.length := by rw [h.len]; exact hjn
        rw [List.getElem?_eq_getElem hjl] at hj
        simp only [Option.map_some, Option.some.injEq] at hj
        rw [← hj, List.getD_eq_getElem?_getD, List.getElem?_eq_getElem hjl]
        rfl
      · rw [Nat.zero_add, hrow.cell (by omega)]; rfl
      · exact hrow.frozen _
      · obtain ⟨s, _, rfl⟩ := List.mem_map.1 hv
        rfl
    · have := e1 j (by omega)
      rw [Nat.zero_add] at this
      rw [this, List.getD_eq_getElem?_getD, List.getD_eq_getElem?_getD, List.getElem?_map]
      have hjl : j < l.length := by rw [h.len]; exact hj
      rw [List.getElem?_eq_getElem hjl]
      rfl
theorem strs_below {w w' : World} {a : Option Addr} {n : Nat} {l : List ByteArray} (h : StrsAt w a n l) (hb : Below w.heap.size w w') : StrsAt w' a n l :=
  ⟨h.len, fun j hj => by
    obtain ⟨x, hx, hc⟩ := h.cell j hj
    exact ⟨x, hx, (hb.cell (block_lt_of_cell hc)).trans hc⟩, h.size⟩

end Go.Proofs.Qxb6613158a
