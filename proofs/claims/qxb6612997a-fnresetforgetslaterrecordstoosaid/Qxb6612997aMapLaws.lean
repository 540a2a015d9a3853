/-
  RUN EQUATIONS on a map of the call's own that holds no entry, or just one (map[string]time.Time: type 31 of the dump), for the walks of 'FnResetForgetsLaterRecordsToo'.
-/
import Derived.Test.Qxb6612997aProg
import Derived.WalkKit
import Derived.Below
import Derived.WideMake
namespace Go.Proofs.Qxb6612997a.fnResetForgetsLaterRecordsToo
open Go.RowKit

/-- time.Time's zero value. -/
def zeroT : Value := .agg #[.int .u64 0, .int .i64 0, .pointer none]

theorem isKey (s : ByteArray) : MapKept.IsKey .string (.string s) := by simp [MapKept.IsKey]

theorem run_lookup_empty {w : World} {b c : Nat} (s : ByteArray) (hb : w.heap[b]? = some (.map #[] c)) :
    (Instr.lookup 31 (.map (some b)) (.string s) true).run Try.prog w = .ok (.tuple #[zeroT, .bool false]) w := by
  have hf : Instr.findNow .string (.string s) ([] : List MapEntry) 0 = some none := rfl
  have hc : (Instr.checkKey true 10000 9 (.string s)).run Try.prog w = .ok () w := MapKept.run_checkKey (k := .string s) Try.underlying9 (isKey s) true 9999
  simp [Instr.lookup, run_underlying Try.underlying31, MapKept.run_getObj_map hb, hc, MapKept.run_findKey Try.underlying9 hf, Result.andThen]
  rfl

theorem run_lookup_one {w : World} {b c n : Nat} (s : ByteArray) (v : Value) (hb : w.heap[b]? = some (.map #[{ key := .string s, val := v, born := n }] c)) :
    (Instr.lookup 31 (.map (some b)) (.string s) true).run Try.prog w = .ok (.tuple #[v, .bool true]) w := by
  have hf : Instr.findNow .string (.string s) [{ key := .string s, val := v, born := n }] 0 = some (some (0, v)) := by
    have e : (s == s) = true := (MapKept.bytes_beq s s).2 rfl
    simp [Instr.findNow, Instr.sameNow, e]
  have hc : (Instr.checkKey false 10000 9 (.string s)).run Try.prog w = .ok () w := MapKept.run_checkKey (k := .string s) Try.underlying9 (isKey s) false 9999
  simp [Instr.lookup, run_underlying Try.underlying31, MapKept.run_getObj_map hb, hc, MapKept.run_findKey Try.underlying9 hf, Result.andThen]

theorem run_len_map {w : World} {b c : Nat} {es : Array MapEntry} (ty : TypeId) (hb : w.heap[b]? = some (.map es c)) :
    (Builtin.len_ #[31] ty #[.map (some b)]).run Try.prog w = .ok (.int .i64 es.size) w := by
  simp [Builtin.len_, run_underlying Try.underlying31, MapKept.run_getObj_map hb, Result.andThen, goInt]

/-- A first entry: the run, and what has turned of the world. -/
theorem run_first {w : World} {m c : Nat} (s : ByteArray) (v : Value) (hb : w.heap[m]? = some (.map #[] c)) :
    ∃ w2, (Instr.mapUpdate 31 (.map (some m)) (.string s) v).run Try.prog w = .ok () w2 ∧ w2.heap.size = w.heap.size ∧
      w2.heap[m]? = some (.map #[{ key := .string s, val := v, born := c }] (c + 1)) ∧ (∀ k, k ≠ m → w2.heap[k]? = w.heap[k]?) ∧ (∀ B, B ≤ m → Below B w w2) := by
  have hlt : m < w.heap.size := (Array.getElem?_eq_some_iff.1 hb).1
  refine ⟨_, run_mapUpdate_first w 31 9 37 m c s v Try.underlying31 Try.underlying9 hb, by simp, by simp [hlt], ?_, ?_⟩
  · intro k hk
    show (w.heap.setIfInBounds m _)[k]? = _
    rw [Array.getElem?_setIfInBounds_ne (by omega)]
  · intro B hB
    refine ⟨rfl, rfl, rfl, by simp, fun k hk => ?_⟩
    show (w.heap.setIfInBounds m _)[k]? = _
    rw [Array.getElem?_setIfInBounds_ne (by omega)]
end Go.Proofs.Qxb6612997a.fnResetForgetsLaterRecordsToo
