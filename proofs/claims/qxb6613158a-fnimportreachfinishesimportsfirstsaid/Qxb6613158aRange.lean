/-
  A RANGE OVER A MAP OF IMPORTS, a step at a time; an append of which the run is known, at a step of a region that draws.
-/
import Derived.Test.Qxb6613158aPMap
import Derived.Maps.RangeRun
namespace Go.Proofs.Qxb6613158a
open Go.RowKit
open Go.ChangeMaps (setBlock)
set_option linter.unusedSimpArgs false
set_option linter.unusedVariables false

theorem pEnts_mem {ip tg : Nat → Nat} {d : Nat} {x : MapEntry} (h : x ∈ pEnts ip tg d) : ∃ k, k < d ∧ x = pEnt ip tg k := by
  unfold pEnts at h
  obtain ⟨k, hk, e⟩ := List.mem_map.1 h
  exact ⟨k, by simpa using hk, e.symm⟩

theorem pEnts_nodup (ip tg : Nat → Nat) (d : Nat) : ((pEnts ip tg d).map (·.born)).Nodup := by
  have : (pEnts ip tg d).map (·.born) = List.range d := by
    unfold pEnts
    rw [List.map_map]
    conv => rhs; rw [← List.map_id (List.range d)]
    apply List.map_congr_left
    intro a _
    rfl
  rw [this]
  exact List.nodup_range

/-- How many are left. -/
def leftN (ip tg : Nat → Nat) (d : Nat) (seen : Array Nat) : Nat := (leftOf (pEnts ip tg d).toArray seen).size

theorem leftN_le (ip tg : Nat → Nat) (d : Nat) (seen : Array Nat) : leftN ip tg d seen ≤ d := by
  unfold leftN leftOf
  have := Array.size_filter_le (p := fun e : MapEntry => !seen.contains e.born) (xs := (pEnts ip tg d).toArray)
  have e : (pEnts ip tg d).toArray.size = d := by simp [pEnts]
  omega

theorem range_step (w : World) (R bm d : Nat) (seen : Array Nat) (ip tg : Nat → Nat) (hr : w.heap[R]? = some (.mapIter (some bm) d seen d)) (hb : w.heap[bm]? = some (.map (pEnts ip tg d).toArray d)) (hne : bm ≠ R) :
    (∀ ty, (Instr.next (.pointer (some ⟨R, 0, none⟩)) false ty).run Try.prog w = .ok (.tuple #[.bool false]) w) ∨
    ∃ (k : Nat) (W : World) (seen' : Array Nat), k < d ∧ (∀ ty, (Instr.next (.pointer (some ⟨R, 0, none⟩)) false ty).run Try.prog w = .ok (.tuple #[.bool true, .pointer (some ⟨ip k, 0, none⟩), .pointer (some ⟨tg k, 0, none⟩)]) W) ∧
      (Instr.entry (.pointer (some ⟨R, 0, none⟩))).run Try.prog W = .ok (.tuple #[.pointer (some ⟨ip k, 0, none⟩), .pointer (some ⟨tg k, 0, none⟩)]) W ∧ W.heap[R]? = some (.mapIter (some bm) d seen' d) ∧ leftN ip tg d seen' < leftN ip tg d seen ∧ Kept (fun b => b = R) w W := by
  have hlt := (Array.getElem?_eq_some_iff.1 hr).1
  have hold : ∀ x ∈ (pEnts ip tg d).toArray.toList, x.born < d := fun x hx => by
    obtain ⟨k, hk, rfl⟩ := pEnts_mem (by simpa using hx)
    exact hk
  have law := fun ty => run_next_at (P := Try.prog) w ty R bm d d seen (pEnts ip tg d).toArray d hr hb hold (Nat.le_refl _)
  rcases law 0 with ⟨h0, hrun⟩ | ⟨e, he, w1, hal, hrun⟩
  · exact .inl fun _ => hrun
  · right
    have hm := mem_left he
    obtain ⟨k, hk, rfl⟩ := pEnts_mem (by simpa using hm.1)
    have hR : (setBlock w1 R (.mapIter (some bm) d (seen.push (pEnt ip tg k).born) d)).heap[R]? = some (.mapIter (some bm) d (seen.push (pEnt ip tg k).born) d) := by
      have : R < w1.heap.size := by rcases hal with rfl | rfl <;> exact hlt
      simp [setBlock, this]
    have hK : Kept (fun b => b = R) w (setBlock w1 R (.mapIter (some bm) d (seen.push (pEnt ip tg k).born) d)) := by
      have h1 : Kept (fun b => b = R) w w1 := by
        rcases hal with rfl | rfl
        · exact Kept.refl _ _
        · exact Kept.drewN _ _ 1
      refine ⟨h1.os, h1.tape, h1.output, ?_, fun b hb2 hs => ?_⟩
      · have := h1.size
        simp [setBlock]; exact this
      · rw [← h1.block b hb2 hs]
        simp only [setBlock]
        rw [Array.getElem?_setIfInBounds_ne (fun e => hs e.symm)]
    refine ⟨k, _, _, hk, fun ty => hrun, ?_, hR, left_shrinks _ seen _ he, hK⟩
    exact run_entry_at (P := Try.prog) _ R bm d seen (pEnts ip tg d).toArray d (pEnt ip tg k) hR (by rw [hK.block bm (Array.getElem?_eq_some_iff.1 hb).1 hne]; exact hb) hm.1 (by simpa using pEnts_nodup ip tg d)

/-- An append of which the run is known, at a step of a region that draws. -/
theorem step_append_run {P : Program} {w w' : World} {ops : Array Oper} {o : Oper} {a : Act} {K : Act → World → Prop} {Q : Exit → Act → World → Prop} {E : Prop} (hgd : o.guard = none) (s x : Operand) (t tx : TypeId)
    (ho : o.op = .call { callee := .builtin .append, args := #[s, x], argTypes := #[t, tx] }) (v xv r : Value) (hs : a.eval s = v) (hx : a.eval x = xv)
    (hr : (Builtin.append_ #[t, tx] o.type #[v, xv]).run P w = .ok r w') (h : K (a.put o.dst r) w') : if Region.wanted o (yielded ops a.tmps) = true then Oper.wp P o a w K Q else E := by
  have hw : Region.wanted o (yielded ops a.tmps) = true := by simp [Region.wanted, hgd]
  rw [if_pos hw]
  unfold Oper.wp execOp
  simp only [ho, resolve, invoke, builtin, Sem.run_bind, Sem.run_pure, Result.andThen_ok, List.map_toArray, List.map_cons, List.map_nil, hs, hx, hr]
  exact h
end Go.Proofs.Qxb6613158a
