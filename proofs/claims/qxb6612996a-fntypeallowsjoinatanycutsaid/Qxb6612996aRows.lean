/-
  No cell of these rows narrows 'for every input' (looked for: loops, veiled, ifaces, maps, wideKeys, modest, calm, conditions, laid).
  DERIVED. THE GIVEN ROWS OF THIS SEAT. 2 by the template 'for every input the law returns true; each argument reads behind the call as it read before'; 0 by the template 'total and deterministic' (their statements: Qxb6612996aTotals.lean).
  GIVEN WITH THE SEED: the statements are not yours to turn. If you find one false, say at which input.
  Laid BY PROGRAM, IN A SANDBOX (cutbox-rows.mjs): the forced cells as the released guide's own fill.sh prints them over the translation e5d57a535836bfa7… (all of the seat's roots in one cut). By AI agents, Wed Nov 11 2026. No macro, syntax, notation, axiom, sorry.
-/
import Derived.Test.Qxb6612996aChecked
import GoSem.Claim
import GoSem.ClaimJoined
import GoSem.ClaimMapViews
import Derived.JoinedTies
import Derived.KernelRfl
namespace Go.Proofs.Qxb6612996a
/- THE CELL 'sum', in the pinned program and in every row, IS THE sha256 OF THE DUMP (.gsa) THAT Qxb6612996aProg.lean LOADS. Nothing in Lean hashes anything: it is a label: what it is worth is what the hold of that sum in a sandbox is worth. -/
noncomputable def Try.pinned : Pinned := { name := "qxb6612996a", sum := "e5d57a535836bfa7bdfa7aa309eab9ccc41f808c0cc5075b7e25f9bef03c886e", checked := Try.checked }
namespace Rows
def none {H : Type} : Left H := { results := [], args := [] }

/-- 'zzlaws_root_b1.FnTypeAllowsInsertAnyPlace': WHATEVER THE INPUT: true; the input reads as it did. -/
def fnTypeAllowsInsertAnyPlaceSpec : ChangeSpec := { name := "fnTypeAllowsInsertAnyPlace", fn := fun _ => fun
  | [d1, d2, d3, d4] => { results := [.lit (.bool true)], args := [d1, d2, d3, d4] }
  | _ => none }
def fnTypeAllowsInsertAnyPlaceRow : OpenClaim := { program := "qxb6612996a", sum := "e5d57a535836bfa7bdfa7aa309eab9ccc41f808c0cc5075b7e25f9bef03c886e", func := "example.com/bindr/bindr/zzlaws_root_b1.FnTypeAllowsInsertAnyPlace", spec := "fnTypeAllowsInsertAnyPlace", apart := false }
def FnTypeAllowsInsertAnyPlaceSaid : Prop := fnTypeAllowsInsertAnyPlaceRow.holds Try.pinned (OpenSpec.ofChange fnTypeAllowsInsertAnyPlaceSpec)

/-- ITS FALSE NEIGHBOUR: 'it returns false'. Refute it at one input. -/
def fnTypeAllowsInsertAnyPlaceWrong : ChangeSpec := { name := "fnTypeAllowsInsertAnyPlace", fn := fun _ => fun
  | [d1, d2, d3, d4] => { results := [.lit (.bool false)], args := [d1, d2, d3, d4] }
  | _ => none }
def FnTypeAllowsInsertAnyPlaceWrongFalsely : Prop := fnTypeAllowsInsertAnyPlaceRow.holds Try.pinned (OpenSpec.ofChange fnTypeAllowsInsertAnyPlaceWrong)

/-- 'zzlaws_root_b1.FnTypeAllowsJoinAtAnyCut': WHATEVER THE INPUT: true; the input reads as it did. -/
def fnTypeAllowsJoinAtAnyCutSpec : ChangeSpec := { name := "fnTypeAllowsJoinAtAnyCut", fn := fun _ => fun
  | [d1, d2, d3] => { results := [.lit (.bool true)], args := [d1, d2, d3] }
  | _ => none }
def fnTypeAllowsJoinAtAnyCutRow : OpenClaim := { program := "qxb6612996a", sum := "e5d57a535836bfa7bdfa7aa309eab9ccc41f808c0cc5075b7e25f9bef03c886e", func := "example.com/bindr/bindr/zzlaws_root_b1.FnTypeAllowsJoinAtAnyCut", spec := "fnTypeAllowsJoinAtAnyCut", apart := false }
def FnTypeAllowsJoinAtAnyCutSaid : Prop := fnTypeAllowsJoinAtAnyCutRow.holds Try.pinned (OpenSpec.ofChange fnTypeAllowsJoinAtAnyCutSpec)

/-- ITS FALSE NEIGHBOUR: 'it returns false'. Refute it at one input. -/
def fnTypeAllowsJoinAtAnyCutWrong : ChangeSpec := { name := "fnTypeAllowsJoinAtAnyCut", fn := fun _ => fun
  | [d1, d2, d3] => { results := [.lit (.bool false)], args := [d1, d2, d3] }
  | _ => none }
def FnTypeAllowsJoinAtAnyCutWrongFalsely : Prop := fnTypeAllowsJoinAtAnyCutRow.holds Try.pinned (OpenSpec.ofChange fnTypeAllowsJoinAtAnyCutWrong)

end Rows
end Go.Proofs.Qxb6612996a
