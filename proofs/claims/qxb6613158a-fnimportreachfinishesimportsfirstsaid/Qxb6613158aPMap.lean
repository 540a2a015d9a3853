/-
  MAPS WHOSE KEYS ARE POINTERS TO IMPORTS (type 68): the runs of lookup and of an update under a new key.
-/
import Derived.Test.Qxb6613158aKept
import Derived.LaidEqlPtr
namespace Go.Proofs.Qxb6613158a
open Go.RowKit
set_option linter.unusedSimpArgs false
set_option linter.unusedVariables false

/-- An entry of such a map; the map's entries. -/
def pEnt (ip tg : Nat → Nat) (k : Nat) : MapEntry := { key := .pointer (some ⟨ip k, 0, none⟩), val := .pointer (some ⟨tg k, 0, none⟩), born := k }
def pEnts (ip tg : Nat → Nat) (d : Nat) : List MapEntry := (List.range d).map (pEnt ip tg)

/-- Block b is an import's own. -/
def ImpAt (w : World) (b : Nat) : Prop := ∃ c, w.heap[b]? = some (.cells c 76 (0, 0))

theorem info76 : (Try.prog.info? 76).map (fun i => i.size) = some 3 := by kernel_rfl

theorem run_eq_other (w : World) {p q : Nat} (h : p ≠ q) (hp : ImpAt w p) (hq : ImpAt w q) :
    (Op.equal 71 (.pointer (some ⟨p, 0, none⟩)) (.pointer (some ⟨q, 0, none⟩))).run Try.prog w = .ok false w := by
  obtain ⟨cp, hp⟩ := hp
  obtain ⟨cq, hq⟩ := hq
  obtain ⟨j, hj, hs⟩ := Option.map_eq_some_iff.1 info76
  have h1 : ∀ d : Nat, (Op.equalIn (d + 1) 71 (.pointer (some ⟨p, 0, none⟩)) (.pointer (some ⟨q, 0, none⟩))).run Try.prog w = .ok false w := fun d => by
    simp [Op.equalIn, run_underlying Try.underlying71, sizeOf, typeInfo, hj, hs, run_sameAddr_other w (a := ⟨p, 0, none⟩) (b := ⟨q, 0, none⟩) (fun e => h (congrArg Addr.block e)) hp hq]
  simp [Op.equal, Op.maxDepth, h1 9999]

theorem run_eq_same (w : World) (p : Nat) :
    (Op.equal 71 (.pointer (some ⟨p, 0, none⟩)) (.pointer (some ⟨p, 0, none⟩))).run Try.prog w = .ok true w := by
  obtain ⟨j, hj, hs⟩ := Option.map_eq_some_iff.1 info76
  have h1 : ∀ d : Nat, (Op.equalIn (d + 1) 71 (.pointer (some ⟨p, 0, none⟩)) (.pointer (some ⟨p, 0, none⟩))).run Try.prog w = .ok true w := fun d => by
    simp [Op.equalIn, run_underlying Try.underlying71, sizeOf, typeInfo, hj, run_sameAddr_same]
  simp [Op.equal, Op.maxDepth, h1 9999]

theorem run_find_skip (w : World) (q : Nat) (hq : ImpAt w q) : ∀ (l r : List MapEntry) (i : Nat), (∀ e ∈ l, ∃ b, e.key = .pointer (some ⟨b, 0, none⟩) ∧ q ≠ b ∧ ImpAt w b) →
    (Instr.findAsking 71 (.pointer (some ⟨q, 0, none⟩)) (l ++ r) i).run Try.prog w = (Instr.findAsking 71 (.pointer (some ⟨q, 0, none⟩)) r (i + l.length)).run Try.prog w
  | [], r, i, h => by simp
  | e :: l, r, i, h => by
    obtain ⟨b, hk, hne, hb⟩ := h e (by simp)
    have ih := run_find_skip w q hq l r (i + 1) (fun e he => h e (by simp [he]))
    simp only [List.cons_append, Instr.findAsking, hk]
    have e1 : i + 1 + l.length = i + (l.length + 1) := by omega
    simp [run_eq_other w hne hq hb, Result.andThen, ih, e1]

theorem pEnts_get (ip tg : Nat → Nat) (d k : Nat) (h : k < d) : pEnts ip tg d = pEnts ip tg k ++ pEnt ip tg k :: ((List.range d).drop (k + 1)).map (pEnt ip tg) := by
  unfold pEnts
  have h1 : List.range d = List.range k ++ k :: (List.range d).drop (k + 1) := by
    have h2 := (List.take_append_drop k (List.range d)).symm
    rw [List.take_range, Nat.min_eq_left (by omega)] at h2
    rw [List.drop_eq_getElem_cons (by simpa using h)] at h2
    simpa using h2
  conv => lhs; rw [h1]
  rw [List.map_append, List.map_cons]

/-- The lookup of a key that is there. -/
theorem run_lookup_ptr (w : World) (m clk d : Nat) (ip tg : Nat → Nat) (hm : w.heap[m]? = some (.map (pEnts ip tg d).toArray clk)) (hi : ∀ j, j < d → ImpAt w (ip j)) (hinj : ∀ j k, j < d → k < d → ip j = ip k → j = k) (k : Nat) (hk : k < d) :
    (Instr.lookup 68 (.map (some m)) (.pointer (some ⟨ip k, 0, none⟩)) false).run Try.prog w = .ok (.pointer (some ⟨tg k, 0, none⟩)) w := by
  have hf : (Instr.findAsking 71 (.pointer (some ⟨ip k, 0, none⟩)) (pEnts ip tg d) 0).run Try.prog w = .ok (some (k, .pointer (some ⟨tg k, 0, none⟩))) w := by
    rw [pEnts_get ip tg d k hk, run_find_skip w (ip k) (hi k hk)]
    · simp only [Instr.findAsking, pEnt]
      simp [run_eq_same, Result.andThen, pEnts]
    · intro e he
      unfold pEnts at he
      obtain ⟨j, hj, rfl⟩ := List.mem_map.1 he
      have hj' : j < k := by simpa using hj
      exact ⟨ip j, rfl, fun e => by have := hinj k j hk (by omega) e; omega, hi j (by omega)⟩
  have hn : Instr.findNow (.pointer 76) (.pointer (some ⟨ip k, 0, none⟩)) (pEnts ip tg d) 0 = none := by
    cases d with
    | zero => omega
    | succ d =>
      rw [pEnts_get ip tg (d + 1) 0 (by omega)]
      simp [pEnts, Instr.findNow, Instr.sameNow]
  have hkk : (Instr.findKey 71 (.pointer (some ⟨ip k, 0, none⟩)) (pEnts ip tg d)).run Try.prog w = .ok (some (k, .pointer (some ⟨tg k, 0, none⟩))) w := by
    simp [Instr.findKey, run_underlying Try.underlying71, hn, hf, Result.andThen]
  have hc : ∀ e, (Instr.checkKey e 10000 71 (.pointer (some ⟨ip k, 0, none⟩))).run Try.prog w = .ok () w := fun e => by
    show (Instr.checkKey e (9999 + 1) 71 _).run Try.prog w = _
    unfold Instr.checkKey
    simp only [Sem.run_bind, run_underlying Try.underlying71, Result.andThen]
    rfl
  simp [Instr.lookup, run_underlying Try.underlying68, MapKept.run_getObj_map hm, hc, hkk, Result.andThen]

theorem pEnts_succ (ip tg : Nat → Nat) (d : Nat) : pEnts ip tg (d + 1) = pEnts ip tg d ++ [pEnt ip tg d] := by
  unfold pEnts
  rw [List.range_succ, List.map_append]
  rfl

/-- An update under a key that is not there. -/
theorem run_update_ptr (w : World) (m d : Nat) (ip tg : Nat → Nat) (hm : w.heap[m]? = some (.map (pEnts ip tg d).toArray d)) (hi : ∀ j, j ≤ d → ImpAt w (ip j)) (hne : ∀ j, j < d → ip d ≠ ip j) :
    (Instr.mapUpdate 68 (.map (some m)) (.pointer (some ⟨ip d, 0, none⟩)) (.pointer (some ⟨tg d, 0, none⟩))).run Try.prog w = .ok () { w with heap := w.heap.setIfInBounds m (.map (pEnts ip tg (d + 1)).toArray (d + 1)) } := by
  have hkk : (Instr.findKey 71 (.pointer (some ⟨ip d, 0, none⟩)) (pEnts ip tg d)).run Try.prog w = .ok none w := by
    cases d with
    | zero => simp [Instr.findKey, run_underlying Try.underlying71, pEnts, Instr.findNow, Result.andThen]
    | succ d =>
      have hn : Instr.findNow (.pointer 76) (.pointer (some ⟨ip (d + 1), 0, none⟩)) (pEnts ip tg (d + 1)) 0 = none := by
        rw [pEnts_get ip tg (d + 1) 0 (by omega)]
        simp [pEnts, Instr.findNow, Instr.sameNow]
      have hf : (Instr.findAsking 71 (.pointer (some ⟨ip (d + 1), 0, none⟩)) (pEnts ip tg (d + 1)) 0).run Try.prog w = .ok none w := by
        have h1 := run_find_skip w (ip (d + 1)) (hi _ (Nat.le_refl _)) (pEnts ip tg (d + 1)) [] 0 (fun e he => by
          unfold pEnts at he
          obtain ⟨j, hj, rfl⟩ := List.mem_map.1 he
          have hj' : j < d + 1 := by simpa using hj
          exact ⟨ip j, rfl, hne j hj', hi j (by omega)⟩)
        rw [List.append_nil] at h1
        rw [h1]
        simp [Instr.findAsking]
      simp [Instr.findKey, run_underlying Try.underlying71, hn, hf, Result.andThen]
  have hc : ∀ e, (Instr.checkKey e 10000 71 (.pointer (some ⟨ip d, 0, none⟩))).run Try.prog w = .ok () w := fun e => by
    show (Instr.checkKey e (9999 + 1) 71 _).run Try.prog w = _
    unfold Instr.checkKey
    simp only [Sem.run_bind, run_underlying Try.underlying71, Result.andThen]
    rfl
  simp [Instr.mapUpdate, run_underlying Try.underlying68, MapKept.run_getObj_map hm, hc, hkk, MapKept.run_setObj_map _ hm, Result.andThen, pEnts_succ, pEnt]
end Go.Proofs.Qxb6613158a
