/-
  THE WALK of 'zzlaws_ca_b1.cloneBytes' (function 9): it hands back a slice; nothing that was there has turned.
-/
import Derived.Test.Qxb6612997aProg
import Derived.WalkKit
import Derived.Below
import Derived.OpenShut
import Derived.WalkSpells
import Derived.WalkLawsBesides
import Derived.Deep.OwnRows
import Derived.Laws.Rows
namespace Go.Proofs.Qxb6612997a.fnResetForgetsLaterRecordsToo
open Go.RowKit
set_option linter.unusedSimpArgs false
set_option linter.unusedVariables false

theorem info5 : (Try.prog.info? 5).map (fun i => (i.zero, i.size, i.bytes)) = some (some (.int .u8 0), 1, 1) := by kernel_rfl

set_option maxHeartbeats 400000 in
set_option maxRecDepth 100000 in
theorem clone_some (x : Addr) (len cap : Nat) (zs : List Int) (w : World) (hl : len ≤ zs.length) (hs : len ≤ 262144)
    (hc : ∀ j, j < zs.length → w.cell? (x.add j) = some (.int .u8 (zs.getD j 0))) :
    Calls Try.prog 9 #[.slice (some x) len cap] w fun e w' => (∃ a l c, e = .returned (.slice a l c)) ∧ Below w.heap.size w w' := by
  have hmk := run_make_row' (P := Try.prog) 25 5 (.int .u8 0) 1 Try.underlying25 info5 rfl .i64 .i64 len (by omega) (by omega) w
  have hnil := fun (n c : Nat) (W : World) => Lib.run_eql_slice_nil (P := Try.prog) W 25 5 (some x) n c 0 0 Try.underlying25
  have hrow := World.rowIs_made w (.int .u8 0) len 5
  go_enter Try.func9, Try.ntmps9
  go_wp2
  go_loopw [4] (fun i wr => ∃ k : Nat, k ≤ len ∧ i = .int .i64 k ∧ (∃ f, wr.rowIs w.heap.size 5 len f) ∧ Below w.heap.size w wr) (fun i _ => len - (intOf i).toNat)
  case atStart => exact ⟨0, Nat.zero_le _, rfl, ⟨_, hrow⟩, (Below.refl _ _).alloc (Nat.le_refl _) _⟩
  case round =>
    obtain ⟨k, hk, rfl, ⟨f, hrow⟩, hnx⟩ := hrel
    by_cases hlt : k < len
    · have hcx : wr.cell? (x.add k) = some (.int .u8 (zs.getD k 0)) := (hnx.cell (block_lt_of_cell (hc k (by omega)))).trans (hc k (by omega))
      have hd := hrow.cell hlt
      have hf := hrow.frozen k
      go_wp2
      go_roundw
      case rel => exact ⟨k + 1, by omega, by go_num, ⟨_, hrow.set k _⟩, hnx.setCell (Nat.le_refl _) _⟩
      case measure => simp [intOf]; omega
    · go_wp2
      go_ret
      exact ⟨⟨_, _, _, rfl⟩, hnx⟩

set_option maxRecDepth 100000 in
theorem clone_nil (w : World) :
    Calls Try.prog 9 #[.slice none 0 0] w fun e w' => (∃ a l c, e = .returned (.slice a l c)) ∧ Below w.heap.size w w' := by
  have hnil := fun (n c : Nat) (W : World) => Lib.run_eql_slice_nil (P := Try.prog) W 25 5 none n c 0 0 Try.underlying25
  go_enter Try.func9, Try.ntmps9
  go_wp2
  go_ret
  exact ⟨⟨_, _, _, rfl⟩, Below.refl _ _⟩
end Go.Proofs.Qxb6612997a.fnResetForgetsLaterRecordsToo
