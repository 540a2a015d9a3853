/-
  THE PROOF OF 'Rows.FnImportReachFinishesImportsFirstSaid'.
-/
import Derived.Test.Qxb6613158aRows
import Derived.Test.Qxb6613158aLaw
import Derived.WalkKit
import Derived.ProofKit
import Derived.OpenShut
import Derived.ShutString
import Derived.SliceStrings
import Derived.Deep.Matrix
import Derived.ChangeOld
import Derived.Below
namespace Go.Proofs.Qxb6613158a
open Go.ChangeShapes Go.WideShapes Go.ChangeAt Go.RowKit
open Go.ChangeMaps (open_string shut_string)
set_option linter.unusedVariables false

theorem own : ownKnob Try.prog.godebug = none := by kernel_rfl
theorem laidOut : laidOutB Try.prog = true := by kernel_rfl

theorem strs_take (x : Addr) (n : Nat) (ss : List ByteArray) (W : World) (hn : n ≤ ss.length) (hc : ∀ i, i < ss.length → W.cell? (x.add i) = some (.string (ss.getD i ByteArray.empty))) (hw : ∀ s ∈ ss, s.size ≤ maxLen) : StrsAt W (some x) n (ss.take n) := by
  have e : ∀ j, j < n → (ss.take n).getD j ByteArray.empty = ss.getD j ByteArray.empty := fun j hj => by
    rw [List.getD_eq_getElem?_getD, List.getD_eq_getElem?_getD, List.getElem?_take_of_lt hj]
  refine ⟨by rw [List.length_take]; omega, fun j hj => ⟨x, rfl, by rw [e j hj]; exact hc j (by omega)⟩, fun j hj => ?_⟩
  rw [e j hj, List.getD_eq_getElem?_getD, List.getElem?_eq_getElem (show j < ss.length by omega)]
  exact hw _ (List.getElem_mem _)

theorem rows_mat (x : Addr) (len cap : Nat) (A : Nat → Option Addr) (L C : Nat → Nat) (Zf : Nat → List Int) (W : World) (hl : len ≤ cap)
    (hrow : ∀ r, r < cap → W.cell? (x.add r) = some (.slice (A r) (L r) (C r)) ∧ L r ≤ C r ∧ C r ≤ maxLen ∧ (Zf r).length = C r ∧ (∀ n ∈ Zf r, (Lit.int .i64 n).wf = true) ∧ (A r = none → C r = 0) ∧ ∀ a', A r = some a' → 0 ≤ a'.block ∧ ∀ c, c < C r → W.cell? (a'.add c) = some (.int .i64 ((Zf r).getD c 0))) :
    MatZ W (some x) len (fun r => (Zf r).take (L r)) :=
  ⟨fun i hi => by
    obtain ⟨h1, h2, h3, h4, _, h5, h6⟩ := hrow i (by omega)
    have hlen : ((Zf i).take (L i)).length = L i := by rw [List.length_take]; omega
    refine ⟨x, A i, C i, rfl, by rw [hlen]; exact h1, by rw [hlen]; omega, fun k hk => ?_⟩
    rw [hlen] at hk
    cases hA : A i with
    | none => have := h5 hA; omega
    | some y =>
      refine ⟨y, rfl, ?_⟩
      rw [(h6 y hA).2 k (by omega), List.getD_eq_getElem?_getD, List.getD_eq_getElem?_getD, List.getElem?_take_of_lt hk]⟩

set_option maxRecDepth 100000 in
theorem impLifted (os : Os) (started : os.Started) (H : Type) (enc : TypeId × Value → H) :
    ReturnsInHanded {} Try.checked os 3 .any (Rows.fnImportReachFinishesImportsFirstSpec.pre6 enc Try.prog Try.f3 Rows.fnImportReachFinishesImportsFirstRow.domain false) (Rows.fnImportReachFinishesImportsFirstSpec.post enc Try.prog Try.f3 false true false false) := by
  refine returnsInHanded_of_change (C := Try.checked) own started (by kernel_rfl) Try.func3
    (ChangeSpec.witness6 (enc := enc) (C := Try.checked) false ⟨#[], #[.slice none 0 0, .slice none 0 0], []⟩ 8 (by kernel_rfl) (by kernel_rfl) (by kernel_rfl) (by kernel_rfl)) ?_
  intro W base args ds gs before hval0 hW hcnd _
  have hval : ∀ (j : Nat) t v, Try.f3.params[j]? = some t → args[j]? = some v → Value.okWide Try.prog W .any base t v := hval0
  have hW' := hW
  obtain ⟨p, q, hA0, hV, rfl, hfz, hnd⟩ := hW
  have hA : DataW.TrodAll enc Try.prog W 0 (fun _ => true) true Try.f3.params.toList args.toList ds p := hA0
  rw [Try.params3] at hA hval
  obtain ⟨v0, vs0, d0, ds0, p0, q0, hargs, rfl, rfl, h0, r0⟩ := trodAll_cons hA
  obtain ⟨v1, vs1, d1, ds1, p1, q1, rfl, rfl, rfl, h1, r1⟩ := trodAll_cons r0
  obtain ⟨rfl, rfl, rfl⟩ := trodAll_nil r1
  obtain rfl : args = #[v0, v1] := by cases args; simp_all
  obtain ⟨rfl, rfl⟩ := trodVars_none hV
  obtain ⟨a0, len0, cap0, rfl⟩ := okWide_slice Try.underlying22 (hval 0 22 v0 rfl rfl)
  have k0 := h0
  have lt0 : ∀ x ∈ p0, x.block < W.heap.size := by obtain ⟨m, hm⟩ := k0; exact DataW.trod_lt m _ _ _ hm
  obtain ⟨l0, st0, ln0, nz0⟩ : ∃ l, StrsAt W a0 len0 l ∧ len0 ≤ maxLen ∧ (a0 = none → len0 = 0) := by
    obtain ⟨fuel, hf⟩ := h0
    rcases open_strings Try.underlying22 Try.underlying9 (by kernel_rfl) hf with ⟨hcs, _⟩ | ⟨x, l, c, ss, hcs, _, hl, hm, hz, _, hcell, hws⟩
    · simp [Value.cells] at hcs
      obtain ⟨rfl, rfl, rfl⟩ := hcs
      exact ⟨[], ⟨rfl, (fun j hj => absurd hj (Nat.not_lt_zero j)), (fun j hj => absurd hj (Nat.not_lt_zero j))⟩, Nat.zero_le _, fun _ => rfl⟩
    · simp [Value.cells] at hcs
      obtain ⟨rfl, rfl, rfl⟩ := hcs
      have hz' : ss.length = cap0 := by simpa using hz
      exact ⟨ss.take len0, strs_take x len0 ss W (by omega) hcell hws, Nat.le_trans hl hm, fun h => by cases h⟩
  obtain ⟨a1, len1, cap1, rfl⟩ := okWide_slice Try.underlying23 (hval 1 23 v1 rfl rfl)
  have k1 := h1
  have lt1 : ∀ x ∈ p1, x.block < W.heap.size := by obtain ⟨m, hm⟩ := k1; exact DataW.trod_lt m _ _ _ hm
  obtain ⟨Z1, mt1, ln1⟩ : ∃ Z, MatZ W a1 len1 Z ∧ len1 ≤ maxLen := by
    obtain ⟨fuel, hf⟩ := h1
    rcases Deep.open_int_rows Try.underlying23 Try.underlying25 Try.underlying3 (by kernel_rfl) (by kernel_rfl) hf with ⟨hcs, _⟩ | ⟨x, len, cap, A, L, C, Zf, hcs, _, hl, hm, _, hrow⟩
    · simp [Value.cells] at hcs
      obtain ⟨rfl, rfl, rfl⟩ := hcs
      exact ⟨fun _ => [], ⟨fun j hj => absurd hj (Nat.not_lt_zero j)⟩, Nat.zero_le _⟩
    · simp [Value.cells] at hcs
      obtain ⟨rfl, rfl, rfl⟩ := hcs
      exact ⟨fun r => (Zf r).take (L r), rows_mat x len1 cap1 A L C Zf W hl hrow, Nat.le_trans hl hm⟩
  clear hA0 hval0
  refine (law_any a0 len0 cap0 l0 a1 len1 cap1 Z1 W st0 ln0 mt1 ln1).mono fun e W' ⟨he, bel⟩ => ?_
  subst he
  exact ⟨_, rfl, _, _, _, [], _, [], hW', trodAll_mk1 (shut_bool Try.underlying4 _), (trodAll_cons_mk (Below.trod laidOut (by kernel_rfl) (of_decide_eq_true (by kernel_rfl)) k0 bel lt0) (trodAll_cons_mk (Below.trod laidOut (by kernel_rfl) (of_decide_eq_true (by kernel_rfl)) k1 bel lt1) trodAll_mk0)), rfl, bel.frame _, fun h => by cases h⟩

theorem impOver : Rows.fnImportReachFinishesImportsFirstRow.holds Try.pinned (OpenSpec.ofChange Rows.fnImportReachFinishesImportsFirstSpec) :=
  OpenClaim.holds_of_wide 3 Try.f3 rfl rfl rfl rfl rfl rfl rfl ⟨rfl, rfl, rfl, rfl, rfl⟩ rfl rfl rfl rfl rfl (by kernel_rfl) Try.func3 (by kernel_rfl)
    (of_decide_eq_true (by kernel_rfl)) (by unfold Func.isWrapper; first | (rw [if_pos (by decide +kernel)]; kernel_rfl) | (rw [if_neg (by decide +kernel)]; exact ⟨rfl, rfl⟩))
    (fun os started H enc _ => impLifted os started H enc)

/-- ████ THE STATEMENT ████ -/
theorem imports_proved : Rows.FnImportReachFinishesImportsFirstSaid := impOver
end Go.Proofs.Qxb6613158a
