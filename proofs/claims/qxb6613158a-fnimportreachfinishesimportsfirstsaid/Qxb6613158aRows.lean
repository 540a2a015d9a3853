/-
  No cell of these rows narrows 'for every input' (looked for: loops, veiled, ifaces, maps, wideKeys, modest, calm, conditions, laid).
  DERIVED. THE GIVEN ROWS OF THIS SEAT. 2 by the template 'for every input the law returns true; each argument reads behind the call as it read before'; 0 by the template 'total and deterministic' (their statements: Qxb6613158aTotals.lean).
  GIVEN WITH THE SEED: the statements are not yours to turn. If you find one false, say at which input.
  Laid BY PROGRAM, IN A SANDBOX (cutbox-rows.mjs): the forced cells as the released guide's own fill.sh prints them over the translation b72855cbe1394d7e… (all of the seat's roots in one cut). By AI agents, Wed Nov 11 2026. No macro, syntax, notation, axiom, sorry.
-/
import Derived.Test.Qxb6613158aChecked
import GoSem.Claim
import GoSem.ClaimJoined
import GoSem.ClaimMapViews
import Derived.JoinedTies
import Derived.KernelRfl
namespace Go.Proofs.Qxb6613158a
/- THE CELL 'sum', in the pinned program and in every row, IS THE sha256 OF THE DUMP (.gsa) THAT Qxb6613158aProg.lean LOADS. Nothing in Lean hashes anything: it is a label: what it is worth is what the hold of that sum in a sandbox is worth. -/
noncomputable def Try.pinned : Pinned := { name := "qxb6613158a", sum := "b72855cbe1394d7efc948d876d6611e0863a372f41612d8d155db109cc8b2f5b", checked := Try.checked }
namespace Rows
def none {H : Type} : Left H := { results := [], args := [] }

/-- 'zzlaws_root_b1.FnImportReachFinishesImportsFirst': WHATEVER THE INPUT: true; the input reads as it did. -/
def fnImportReachFinishesImportsFirstSpec : ChangeSpec := { name := "fnImportReachFinishesImportsFirst", fn := fun _ => fun
  | [d1, d2] => { results := [.lit (.bool true)], args := [d1, d2] }
  | _ => none }
def fnImportReachFinishesImportsFirstRow : OpenClaim := { program := "qxb6613158a", sum := "b72855cbe1394d7efc948d876d6611e0863a372f41612d8d155db109cc8b2f5b", func := "example.com/mortise/mortise/zzlaws_root_b1.FnImportReachFinishesImportsFirst", spec := "fnImportReachFinishesImportsFirst", inPlace := ["internal/bytealg.abigen_runtime_cmpstring"], unfollowed := true, recurses := true, apart := false }
def FnImportReachFinishesImportsFirstSaid : Prop := fnImportReachFinishesImportsFirstRow.holds Try.pinned (OpenSpec.ofChange fnImportReachFinishesImportsFirstSpec)

/-- ITS FALSE NEIGHBOUR: 'it returns false'. Refute it at one input. -/
def fnImportReachFinishesImportsFirstWrong : ChangeSpec := { name := "fnImportReachFinishesImportsFirst", fn := fun _ => fun
  | [d1, d2] => { results := [.lit (.bool false)], args := [d1, d2] }
  | _ => none }
def FnImportReachFinishesImportsFirstWrongFalsely : Prop := fnImportReachFinishesImportsFirstRow.holds Try.pinned (OpenSpec.ofChange fnImportReachFinishesImportsFirstWrong)

/-- 'zzlaws_root_b1.FnEntriesGetFindsInSortedList': WHATEVER THE INPUT: true; the input reads as it did. -/
def fnEntriesGetFindsInSortedListSpec : ChangeSpec := { name := "fnEntriesGetFindsInSortedList", fn := fun _ => fun
  | [d1, d2] => { results := [.lit (.bool true)], args := [d1, d2] }
  | _ => none }
def fnEntriesGetFindsInSortedListRow : OpenClaim := { program := "qxb6613158a", sum := "b72855cbe1394d7efc948d876d6611e0863a372f41612d8d155db109cc8b2f5b", func := "example.com/mortise/mortise/zzlaws_root_b1.FnEntriesGetFindsInSortedList", spec := "fnEntriesGetFindsInSortedList", inPlace := ["internal/bytealg.abigen_runtime_cmpstring"], unfollowed := true, recurses := true, apart := false }
def FnEntriesGetFindsInSortedListSaid : Prop := fnEntriesGetFindsInSortedListRow.holds Try.pinned (OpenSpec.ofChange fnEntriesGetFindsInSortedListSpec)

/-- ITS FALSE NEIGHBOUR: 'it returns false'. Refute it at one input. -/
def fnEntriesGetFindsInSortedListWrong : ChangeSpec := { name := "fnEntriesGetFindsInSortedList", fn := fun _ => fun
  | [d1, d2] => { results := [.lit (.bool false)], args := [d1, d2] }
  | _ => none }
def FnEntriesGetFindsInSortedListWrongFalsely : Prop := fnEntriesGetFindsInSortedListRow.holds Try.pinned (OpenSpec.ofChange fnEntriesGetFindsInSortedListWrong)

end Rows
end Go.Proofs.Qxb6613158a
