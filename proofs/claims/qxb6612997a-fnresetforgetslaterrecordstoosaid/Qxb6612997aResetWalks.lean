/-
  THE WALKS of what 'FnResetForgetsLaterRecordsToo' calls: ca.ZZnewRevocations (10), ca.ZZreset (11), (*Revocations).reset (15), ca.ZZrevocationsFields (12), ca.ZZrevokeAt (13).
-/
import Derived.Test.Qxb6612997aMapLaws
import Derived.BigQuiet
import Derived.Deep.QuietTactic
import Derived.WalkLawsBesides
namespace Go.Proofs.Qxb6612997a.fnResetForgetsLaterRecordsToo
open Go.RowKit
set_option linter.unusedSimpArgs false
set_option linter.unusedVariables false

theorem alloc_at (W : World) (o : Obj) (n : Nat) (h : W.heap.size = n) : (W.alloc o).heap[n]? = some o := by
  subst h
  show (W.heap.push o)[W.heap.size]? = _
  simp

/-- In the world w block b is a Revocations of the call's own (a block from B on); its four fields that count. -/
structure IsRev (B b : Nat) (w : World) (v3 v4 v5 v6 : Value) : Prop where
  base : B ≤ b
  lt : b < w.heap.size
  c3 : w.cell? ⟨b, 3, none⟩ = some v3
  c4 : w.cell? ⟨b, 4, none⟩ = some v4
  c5 : w.cell? ⟨b, 5, none⟩ = some v5
  c6 : w.cell? ⟨b, 6, none⟩ = some v6
  f3 : w.frozen? ⟨b, 3, none⟩ = false
  f4 : w.frozen? ⟨b, 4, none⟩ = false
  f5 : w.frozen? ⟨b, 5, none⟩ = false
  f6 : w.frozen? ⟨b, 6, none⟩ = false

theorem IsRev.of_block {B b : Nat} {w w' : World} {v3 v4 v5 v6 : Value} (h : IsRev B b w v3 v4 v5 v6) (hs : w.heap.size ≤ w'.heap.size) (hb : w'.heap[b]? = w.heap[b]?) : IsRev B b w' v3 v4 v5 v6 :=
  ⟨h.base, Nat.lt_of_lt_of_le h.lt hs, (World.cell?_of_block (w := w) hb).trans h.c3, (World.cell?_of_block (w := w) hb).trans h.c4, (World.cell?_of_block (w := w) hb).trans h.c5, (World.cell?_of_block (w := w) hb).trans h.c6,
   (World.frozen?_of_block (w := w) hb).trans h.f3, (World.frozen?_of_block (w := w) hb).trans h.f4, (World.frozen?_of_block (w := w) hb).trans h.f5, (World.frozen?_of_block (w := w) hb).trans h.f6⟩

set_option maxRecDepth 100000 in
theorem reset_any (B b : Nat) (w : World) (v3 v4 v5 v6 : Value) (h : IsRev B b w v3 v4 v5 v6) :
    Calls Try.prog 15 #[.pointer (some ⟨b, 0, none⟩)] w fun e w' => e = .returned (.tuple #[]) ∧
      ∃ m, IsRev B b w' (.int .i64 0) (.slice none 0 0) (.int .i64 0) (.map (some m)) ∧ w'.heap[m]? = some (.map #[] 0) ∧ B ≤ m ∧ m ≠ b ∧ Below B w w' := by
  obtain ⟨hB, hlt, c3, c4, c5, c6, f3, f4, f5, f6⟩ := h
  have hmm := @run_makeMap Try.prog
  go_enter Try.func15, Try.ntmps15
  go_wp2
  go_end0
  refine ⟨rfl, w.heap.size, ⟨hB, by simp [World.setCell]; omega, ?_, ?_, ?_, ?_, ?_, ?_, ?_, ?_⟩, ?_, by omega, by omega, ?_⟩
  · simp [go_sem, c3, c4, c5, c6, hlt]
  · simp [go_sem, c3, c4, c5, c6, hlt]
  · simp [go_sem, c3, c4, c5, c6, hlt]
  · simp [go_sem, c3, c4, c5, c6, hlt]
  · simp [go_sem, f3, hlt]
  · simp [go_sem, f4, hlt]
  · simp [go_sem, f5, hlt]
  · simp [go_sem, f6, hlt]
  · exact alloc_at _ _ _ (by simp [World.setCell])
  · exact ((((Below.refl B w).setCell hB _).setCell hB _).setCell hB _).setCell hB _ |>.alloc (by simp [World.setCell]; omega) _

set_option maxRecDepth 100000 in
theorem fields_any (B b : Nat) (w : World) (v3 v4 v5 v6 : Value) (h : IsRev B b w v3 v4 v5 v6) :
    Calls Try.prog 12 #[.pointer (some ⟨b, 0, none⟩)] w fun e w' => e = .returned (.tuple #[v3, v4, v5, v6]) ∧ w'.heap = w.heap ∧ ∀ B, Below B w w' := by
  obtain ⟨hB, hlt, c3, c4, c5, c6, f3, f4, f5, f6⟩ := h
  go_enter Try.func12, Try.ntmps12
  go_wp2
  go_quiet (fail)
  go_wp2
  exact bodyPost_ret (v := .tuple #[v3, v4, v5, v6]) (by simp [results, Try.results12, go_sem]) rfl ⟨rfl, rfl, fun _ => ⟨rfl, rfl, rfl, Nat.le_refl _, fun _ _ => rfl⟩⟩

set_option maxRecDepth 100000 in
theorem zreset_any (B b : Nat) (w : World) (v3 v4 v5 v6 : Value) (h : IsRev B b w v3 v4 v5 v6) :
    Calls Try.prog 11 #[.pointer (some ⟨b, 0, none⟩)] w fun e w' => e = .returned (.tuple #[]) ∧
      ∃ m, IsRev B b w' (.int .i64 0) (.slice none 0 0) (.int .i64 0) (.map (some m)) ∧ w'.heap[m]? = some (.map #[] 0) ∧ B ≤ m ∧ m ≠ b ∧ Below B w w' := by
  go_enter Try.func11, Try.ntmps11
  go_wp2_with fail
  refine (reset_any B b w v3 v4 v5 v6 h).mono ?_
  rintro e w' ⟨rfl, hx⟩
  go_wp2
  go_end0
  exact ⟨rfl, hx⟩

set_option maxRecDepth 100000 in
theorem revokeAt_any (B b m : Nat) (w : World) (v3 v4 v5 : Value) (s : ByteArray) (h : IsRev B b w v3 v4 v5 (.map (some m))) (hm : w.heap[m]? = some (.map #[] 0)) (hBm : B ≤ m) (hmb : m ≠ b) :
    Calls Try.prog 13 #[.pointer (some ⟨b, 0, none⟩), .string s] w fun e w' => e = .returned (.tuple #[]) ∧
      IsRev B b w' v3 v4 v5 (.map (some m)) ∧ w'.heap[m]? = some (.map #[{ key := .string s, val := zeroT, born := 0 }] 1) ∧ Below B w w' := by
  have c6 := h.c6
  obtain ⟨w2, hrun, hs, h2, hk, hb⟩ := run_first s zeroT hm
  unfold zeroT at hrun
  have H2 : Hid _ := h2
  clear h2 hm
  go_enter Try.func13, Try.ntmps13
  go_wp2
  go_end0
  exact ⟨rfl, h.of_block (by omega) (hk b (fun e => hmb e.symm)), H2.out, hb B hBm⟩

set_option maxRecDepth 100000 in
theorem new_any (w : World) (rd ln : Int) (a : Option Addr) (l c : Nat) (s : ByteArray) :
    Calls Try.prog 10 #[.int .i64 rd, .slice a l c, .int .i64 ln, .string s] w fun e w' => ∃ b m, e = .returned (.pointer (some ⟨b, 0, none⟩)) ∧
      IsRev w.heap.size b w' (.int .i64 rd) (.slice a l c) (.int .i64 ln) (.map (some m)) ∧ Below w.heap.size w w' := by
  have hmm := @run_makeMap Try.prog
  obtain ⟨w2, hrun, hs, h2, hk, hb⟩ := run_first (w := w.alloc (.map #[] 0)) (m := w.heap.size) (c := 0) s zeroT (alloc_at _ _ _ rfl)
  unfold zeroT at hrun
  have H2 : Hid _ := h2
  clear h2
  go_enter Try.func10, Try.ntmps10
  go_wp2
  go_ret
  have e1 : (w.alloc (.map #[] 0)).heap.size = w.heap.size + 1 := by simp
  have hat := alloc_at w2 (.cells #[.pointer none, .int .i32 0, .int .u32 0, .int .i64 rd, .slice a l c, .int .i64 ln, .map (some w.heap.size)] 66) (w.heap.size + 1) (by omega)
  refine ⟨w.heap.size + 1, w.heap.size, rfl, ⟨by omega, by simp; omega, ?_, ?_, ?_, ?_, ?_, ?_, ?_, ?_⟩, ?_⟩
  · simp [World.cell?, hat]
  · simp [World.cell?, hat]
  · simp [World.cell?, hat]
  · simp [World.cell?, hat]
  · simp [World.frozen?, hat]
  · simp [World.frozen?, hat]
  · simp [World.frozen?, hat]
  · simp [World.frozen?, hat]
  · exact (((Below.refl w.heap.size w).alloc (Nat.le_refl _) _).trans (hb w.heap.size (Nat.le_refl _))).alloc (by omega) _
end Go.Proofs.Qxb6612997a.fnResetForgetsLaterRecordsToo
