/-
  THE PROOF OF 'Rows.FnResetForgetsLaterRecordsTooSaid'. The frame is the guide's own way as the seat's shell gives it; the walks are ours.
-/
import Derived.Test.Qxb6612997aRows
import Derived.WalkKit
import Derived.ProofKit
import Derived.OpenShut
import Derived.ShutString
import Derived.ChangeOld
import Derived.Below
import Derived.Test.Qxb6612997aClone
import Derived.Test.Qxb6612997aResetWalks
import Derived.WalkSpells
namespace Go.Proofs.Qxb6612997a.fnResetForgetsLaterRecordsToo
open Go.ChangeShapes Go.WideShapes Go.ChangeAt Go.RowKit
open Go.ChangeMaps (open_string shut_string)
set_option linter.unusedVariables false

theorem own : ownKnob Try.prog.godebug = none := by kernel_rfl
theorem laidOut : laidOutB Try.prog = true := by kernel_rfl

/-- WHAT THE WALK IS TOLD OF A SLICE OF INTEGERS THAT CAME IN: it is nil; or it leads to a row of 'cap' cells, the numbers 'zs' (the first 'len' are its elements, the rest its spare room), each fitting its kind. -/
def IsRow (k : IntKind) (w : World) (a : Option Addr) (len cap : Nat) (zs : List Int) : Prop :=
  (a = none ∧ len = 0 ∧ cap = 0 ∧ zs = []) ∨
  ∃ x, a = some x ∧ len ≤ cap ∧ cap ≤ maxLen ∧ zs.length = cap ∧ (∀ i, i < zs.length → w.cell? (x.add i) = some (.int k (zs.getD i 0))) ∧ ∀ n ∈ zs, (Lit.int k n).wf = true

theorem blk_alloc {w : World} {m : Nat} {x : Obj} (h : w.heap[m]? = some x) (o : Obj) : (w.alloc o).heap[m]? = some x := by
  have hlt : m < w.heap.size := (Array.getElem?_eq_some_iff.1 h).1
  rw [Below.heap_alloc _ _ _ hlt, h]

theorem IsRev.alloc {B b : Nat} {w : World} {v3 v4 v5 v6 : Value} (h : IsRev B b w v3 v4 v5 v6) (o : Obj) : IsRev B b (w.alloc o) v3 v4 v5 v6 :=
  h.of_block (by simp) (Below.heap_alloc _ _ _ h.lt)

theorem len_alloc {w : World} {m c : Nat} {es : Array MapEntry} (o : Obj) (ty : TypeId) (h : w.heap[m]? = some (.map es c)) :
    (Builtin.len_ #[31] ty #[.map (some m)]).run Try.prog (w.alloc o) = .ok (.int .i64 es.size) (w.alloc o) := run_len_map ty (blk_alloc h o)

/-! ### STEP 1: THE WALK: the Go text returns true, AND WRITES NOTHING THAT WAS THERE: 'Below w.heap.size w w'' (Derived/Below.lean: '.refl', '.alloc', '.drew', '.setCell' at a new block, '.trans'). Open each 'IsRow' by 'rcases' AHEAD of 'go_enter'; part every test ahead of the walk. -/
set_option maxRecDepth 100000 in
theorem zz (a0 : Int) (a1 : Option Addr) (len1 cap1 : Nat) (a2 : Int) (a3 a4 : ByteArray) (wl : len1 ≤ maxLen) (w3 : a3.size ≤ maxLen) (w4 : a4.size ≤ maxLen) (w : World) :
    Calls Try.prog 8 #[.int .i64 a0, .slice a1 len1 cap1, .int .i64 a2, .string a3, .string a4] w fun e w' => (∃ b, e = .returned (.bool b)) ∧ w' = w := by
  unfold maxLen at wl w3 w4
  go_enter Try.func8, Try.ntmps8
  go_wp2
  all_goals
    go_ret
    exact ⟨⟨_, rfl⟩, rfl⟩

theorem clone_any (a1 : Option Addr) (len1 cap1 : Nat) (z1 : List Int) (w : World) (w1 : IsRow .u8 w a1 len1 cap1 z1) (hs : len1 ≤ 262144) :
    Calls Try.prog 9 #[.slice a1 len1 cap1] w fun e w' => (∃ a l c, e = .returned (.slice a l c)) ∧ Below w.heap.size w w' := by
  rcases w1 with ⟨rfl, rfl, rfl, _⟩ | ⟨x, rfl, hl, _, hz, hc, _⟩
  · exact clone_nil w
  · exact clone_some x len1 cap1 z1 w (by omega) hs hc

theorem lenOk {a1 : Option Addr} {len1 cap1 : Nat} {z1 : List Int} {w : World} (w1 : IsRow .u8 w a1 len1 cap1 z1) : len1 ≤ maxLen := by
  rcases w1 with ⟨rfl, rfl, rfl, _⟩ | ⟨x, rfl, hl, hm, _⟩
  · exact Nat.zero_le _
  · exact Nat.le_trans hl hm

set_option maxHeartbeats 1000000 in
set_option maxRecDepth 100000 in
theorem walk (a0 : Int) (a1 : Option Addr) (len1 cap1 : Nat) (z1 : List Int) (a2 : Int) (a3 : ByteArray) (a4 : ByteArray) (w : World) (w0 : (Lit.int .i64 a0).wf = true) (w1 : IsRow .u8 w a1 len1 cap1 z1) (w2 : (Lit.int .i64 a2).wf = true) (w3 : a3.size ≤ maxLen) (w4 : a4.size ≤ maxLen) :
    Calls Try.prog 4 #[.int .i64 a0, .slice a1 len1 cap1, .int .i64 a2, .string a3, .string a4] w fun e w' => e = .returned (.bool true) ∧ Below w.heap.size w w' := by
  have wl := lenOk w1
  have w3' := w3
  have w4' := w4
  unfold maxLen at wl w3' w4'
  have W1 : Hid _ := w1
  clear w1
  have hmnil := fun (r : Nat) (W : World) => run_eql_map_nil (P := Try.prog) W 31 9 37 (some r) Try.underlying31
  have hmneq := fun (r : Nat) (W : World) => run_neq_map_nil (P := Try.prog) W 31 9 37 (some r) Try.underlying31
  have hsnil := fun (W : World) => Lib.run_eql_slice_nil (P := Try.prog) W 25 5 none 0 0 0 0 Try.underlying25
  go_enter Try.func4, Try.ntmps4
  go_wp2_with fail
  refine (zz a0 a1 len1 cap1 a2 a3 a4 (by unfold maxLen; omega) w3 w4 _).mono ?_
  rintro e w' ⟨⟨b, rfl⟩, rfl⟩
  cases b
  · go_wp2
    go_ret
    exact ⟨rfl, Below.refl _ _⟩
  by_cases h1 : 262144 < len1
  · go_wp2
    go_ret
    exact ⟨rfl, Below.refl _ _⟩
  by_cases h3 : 262144 < a3.size
  · go_wp2
    go_ret
    exact ⟨rfl, Below.refl _ _⟩
  by_cases h4 : 262144 < a4.size
  · go_wp2
    go_ret
    exact ⟨rfl, Below.refl _ _⟩
  by_cases h0 : a0 < 0
  · go_wp2
    go_ret
    exact ⟨rfl, Below.refl _ _⟩
  by_cases h2 : a2 < 0
  · go_wp2
    go_ret
    exact ⟨rfl, Below.refl _ _⟩
  go_wp2_with fail
  refine (clone_any a1 len1 cap1 z1 _ W1.out (by omega)).mono ?_
  rintro e wA ⟨⟨ca, cl, cc, rfl⟩, hA⟩
  go_wp2_with fail
  refine (new_any _ _ _ _ _ _ _).mono ?_
  rintro e wB ⟨b, m0, rfl, hrB, hB⟩
  go_wp2_with fail
  refine (zreset_any _ b _ _ _ _ _ hrB).mono ?_
  rintro e wC ⟨rfl, m, hrC, hmC, hBm, hmb, hC⟩
  go_wp2_with fail
  refine (fields_any _ b _ _ _ _ _ hrC).mono ?_
  rintro e wD ⟨rfl, hhD, hD⟩
  obtain ⟨hrD, hmD⟩ : IsRev wA.heap.size b wD (.int .i64 0) (.slice none 0 0) (.int .i64 0) (.map (some m)) ∧ Hid (wD.heap[m]? = some (.map #[] 0)) :=
    ⟨hrC.of_block (by rw [hhD]; exact Nat.le_refl _) (by rw [hhD]), by rw [hhD]; exact hmC⟩
  clear hhD hmC
  have hl1 := run_lookup_empty a3 hmD.out
  unfold zeroT at hl1
  have hn1 := fun (o : Obj) (ty : TypeId) => len_alloc o ty hmD.out
  go_wp2_with fail
  have hrD' := hrD.alloc (.cells #[.int .u64 0, .int .i64 0, .pointer none] 37)
  have hmD' := blk_alloc hmD.out (.cells #[.int .u64 0, .int .i64 0, .pointer none] 37)
  refine (revokeAt_any _ b m _ _ _ _ a4 hrD' hmD' hBm hmb).mono ?_
  rintro e wE ⟨rfl, hrE, hmE, hE⟩
  clear hl1 hn1 hmD'
  have HmE : Hid _ := hmE
  clear hmE
  go_wp2_with fail
  refine (fields_any _ b _ _ _ _ _ hrE).mono ?_
  rintro e wF ⟨rfl, hhF, hF⟩
  obtain ⟨hrF, hmF⟩ : IsRev wA.heap.size b wF (.int .i64 0) (.slice none 0 0) (.int .i64 0) (.map (some m)) ∧ Hid (wF.heap[m]? = some (.map #[{ key := .string a4, val := zeroT, born := 0 }] 1)) :=
    ⟨hrE.of_block (by rw [hhF]; exact Nat.le_refl _) (by rw [hhF]), by rw [hhF]; exact HmE.out⟩
  clear hhF
  have hl2 := run_lookup_one a4 zeroT hmF.out
  unfold zeroT at hl2
  go_wp2_with fail
  have hrF' := hrF.alloc (.cells #[.int .u64 0, .int .i64 0, .pointer none] 37)
  refine (zreset_any _ b _ _ _ _ _ hrF').mono ?_
  rintro e wG ⟨rfl, m2, hrG, hmG, hBm2, hmb2, hG⟩
  clear hl2
  go_wp2_with fail
  refine (fields_any _ b _ _ _ _ _ hrG).mono ?_
  rintro e wH ⟨rfl, hhH, hH⟩
  have hmH : Hid (wH.heap[m2]? = some (.map #[] 0)) := by rw [hhH]; exact hmG
  clear hhH hmG
  have hl3 := run_lookup_empty a4 hmH.out
  unfold zeroT at hl3
  have hn3 := fun (o : Obj) (ty : TypeId) => len_alloc o ty hmH.out
  go_wp2
  go_ret
  have sA := hA.size
  have b1 : Below w'.heap.size w' wD := ((hA.trans (hB.mono sA)).trans (hC.mono sA)).trans (hD _)
  have b2 : Below w'.heap.size w' wF := ((b1.alloc b1.size _).trans (hE.mono sA)).trans (hF _)
  have b3 : Below w'.heap.size w' wH := ((b2.alloc b2.size _).trans (hG.mono sA)).trans (hH _)
  exact ⟨rfl, b3.alloc b3.size _⟩

/-! ### THE ROW's STEP: WRITTEN OUT: LEAVE IT -/
set_option maxRecDepth 100000 in
theorem lifted (os : Os) (started : os.Started) (H : Type) (enc : TypeId × Value → H) :
    ReturnsInHanded {} Try.checked os 4 .any (Rows.fnResetForgetsLaterRecordsTooSpec.pre6 enc Try.prog Try.f4 Rows.fnResetForgetsLaterRecordsTooRow.domain false) (Rows.fnResetForgetsLaterRecordsTooSpec.post enc Try.prog Try.f4 false true false false) := by
  refine returnsInHanded_of_change (C := Try.checked) own started (by kernel_rfl) Try.func4
    (ChangeSpec.witness6 (enc := enc) (C := Try.checked) false ⟨#[], #[.int .i64 0, .slice none 0 0, .int .i64 0, .string ByteArray.empty, .string ByteArray.empty], []⟩ 8 (by kernel_rfl) (by kernel_rfl) (by kernel_rfl) (by kernel_rfl)) ?_
  intro W base args ds gs before hval0 hW hcnd _
  have hval : ∀ (j : Nat) t v, Try.f4.params[j]? = some t → args[j]? = some v → Value.okWide Try.prog W .any base t v := hval0
  have hW' := hW
  obtain ⟨p, q, hA0, hV, rfl, hfz, hnd⟩ := hW
  have hA : DataW.TrodAll enc Try.prog W 0 (fun _ => true) true Try.f4.params.toList args.toList ds p := hA0
  rw [Try.params4] at hA hval
  obtain ⟨v0, vs0, d0, ds0, p0, q0, hargs, rfl, rfl, h0, r0⟩ := trodAll_cons hA
  obtain ⟨v1, vs1, d1, ds1, p1, q1, rfl, rfl, rfl, h1, r1⟩ := trodAll_cons r0
  obtain ⟨v2, vs2, d2, ds2, p2, q2, rfl, rfl, rfl, h2, r2⟩ := trodAll_cons r1
  obtain ⟨v3, vs3, d3, ds3, p3, q3, rfl, rfl, rfl, h3, r3⟩ := trodAll_cons r2
  obtain ⟨v4, vs4, d4, ds4, p4, q4, rfl, rfl, rfl, h4, r4⟩ := trodAll_cons r3
  obtain ⟨rfl, rfl, rfl⟩ := trodAll_nil r4
  obtain rfl : args = #[v0, v1, v2, v3, v4] := by cases args; simp_all
  obtain ⟨rfl, rfl⟩ := trodVars_none hV
  obtain ⟨a0, rfl, rfl, rfl, w0⟩ := open_int Try.underlying2 (hval 0 2 v0 rfl rfl) h0
  obtain ⟨a1, len1, cap1, rfl⟩ := okWide_slice Try.underlying25 (hval 1 25 v1 rfl rfl)
  have k1 := h1
  have lt1 : ∀ x ∈ p1, x.block < W.heap.size := by obtain ⟨m, hm⟩ := k1; exact DataW.trod_lt m _ _ _ hm
  obtain ⟨z1, w1⟩ : ∃ zs, IsRow .u8 W a1 len1 cap1 zs := by
    obtain ⟨fuel, hf⟩ := h1
    rcases open_ints Try.underlying25 Try.underlying5 (by kernel_rfl) hf with ⟨hcs, _⟩ | ⟨x, l, c, zs, hcs, _, hl, hm, hz, _, hcell, hwz⟩
    · simp [Value.cells] at hcs
      obtain ⟨rfl, rfl, rfl⟩ := hcs
      exact ⟨[], .inl ⟨rfl, rfl, rfl, rfl⟩⟩
    · simp [Value.cells] at hcs
      obtain ⟨rfl, rfl, rfl⟩ := hcs
      exact ⟨zs, .inr ⟨_, rfl, hl, hm, by simpa using hz, hcell, hwz⟩⟩
  obtain ⟨a2, rfl, rfl, rfl, w2⟩ := open_int Try.underlying3 (hval 2 3 v2 rfl rfl) h2
  obtain ⟨a3, rfl, rfl, rfl, w3⟩ := open_string Try.underlying9 (hval 3 9 v3 rfl rfl) h3
  obtain ⟨a4, rfl, rfl, rfl, w4⟩ := open_string Try.underlying9 (hval 4 9 v4 rfl rfl) h4
  clear hA0 hval0
  refine (walk a0 a1 len1 cap1 z1 a2 a3 a4 W w0 w1 w2 w3 w4).mono fun e W' ⟨he, bel⟩ => ?_
  subst he
  exact ⟨_, rfl, _, _, _, [], _, [], hW', trodAll_mk1 (shut_bool Try.underlying4 _), (trodAll_cons_mk (shut_int Try.underlying2 w0) (trodAll_cons_mk (Below.trod laidOut (by kernel_rfl) (of_decide_eq_true (by kernel_rfl)) k1 bel lt1) (trodAll_cons_mk (shut_int Try.underlying3 w2) (trodAll_cons_mk (shut_string Try.underlying9 w3) (trodAll_cons_mk (shut_string Try.underlying9 w4) trodAll_mk0))))), rfl, bel.frame _, fun h => by cases h⟩

theorem over : Rows.fnResetForgetsLaterRecordsTooRow.holds Try.pinned (OpenSpec.ofChange Rows.fnResetForgetsLaterRecordsTooSpec) :=
  OpenClaim.holds_of_wide 4 Try.f4 rfl rfl rfl rfl rfl rfl rfl ⟨rfl, rfl, rfl, rfl, rfl⟩ rfl rfl rfl rfl rfl (by kernel_rfl) Try.func4 (by kernel_rfl)
    (of_decide_eq_true (by kernel_rfl)) (by unfold Func.isWrapper; first | (rw [if_pos (by decide +kernel)]; kernel_rfl) | (rw [if_neg (by decide +kernel)]; exact ⟨rfl, rfl⟩))
    (fun os started H enc _ => lifted os started H enc)

/-- ████ THE STATEMENT ████ -/
theorem proved : Rows.FnResetForgetsLaterRecordsTooSaid := over
end Go.Proofs.Qxb6612997a.fnResetForgetsLaterRecordsToo
