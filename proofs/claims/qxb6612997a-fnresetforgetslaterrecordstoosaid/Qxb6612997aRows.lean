/-
  No cell of these rows narrows 'for every input' (looked for: loops, veiled, ifaces, maps, wideKeys, modest, calm, conditions, laid).
  DERIVED. THE GIVEN ROWS OF THIS SEAT. 2 by the template 'for every input the law returns true; each argument reads behind the call as it read before'; 0 by the template 'total and deterministic' (their statements: Qxb6612997aTotals.lean).
  GIVEN WITH THE SEED: the statements are not yours to turn. If you find one false, say at which input.
  Laid BY PROGRAM, IN A SANDBOX (cutbox-rows.mjs): the forced cells as the released guide's own fill.sh prints them over the translation 6430abd684991af7… (all of the seat's roots in one cut). By AI agents, Wed Nov 11 2026. No macro, syntax, notation, axiom, sorry.
-/
import Derived.Test.Qxb6612997aChecked
import GoSem.Claim
import GoSem.ClaimJoined
import GoSem.ClaimMapViews
import Derived.JoinedTies
import Derived.KernelRfl
namespace Go.Proofs.Qxb6612997a
/- THE CELL 'sum', in the pinned program and in every row, IS THE sha256 OF THE DUMP (.gsa) THAT Qxb6612997aProg.lean LOADS. Nothing in Lean hashes anything: it is a label: what it is worth is what the hold of that sum in a sandbox is worth. -/
noncomputable def Try.pinned : Pinned := { name := "qxb6612997a", sum := "6430abd684991af7d67107db129d9b46877dca424532d6c65d19e7923ff82b89", checked := Try.checked }
namespace Rows
def none {H : Type} : Left H := { results := [], args := [] }

/-- 'zzlaws_ca_b1.FnFileNameSettles': WHATEVER THE INPUT: true; the input reads as it did. -/
def fnFileNameSettlesSpec : ChangeSpec := { name := "fnFileNameSettles", fn := fun _ => fun
  | [d1, d2, d3, d4, d5] => { results := [.lit (.bool true)], args := [d1, d2, d3, d4, d5] }
  | _ => none }
def fnFileNameSettlesRow : OpenClaim := { program := "qxb6612997a", sum := "6430abd684991af7d67107db129d9b46877dca424532d6c65d19e7923ff82b89", func := "example.com/trustforge/trustforge/zzlaws_ca_b1.FnFileNameSettles", spec := "fnFileNameSettles", apart := false }
def FnFileNameSettlesSaid : Prop := fnFileNameSettlesRow.holds Try.pinned (OpenSpec.ofChange fnFileNameSettlesSpec)

/-- ITS FALSE NEIGHBOUR: 'it returns false'. Refute it at one input. -/
def fnFileNameSettlesWrong : ChangeSpec := { name := "fnFileNameSettles", fn := fun _ => fun
  | [d1, d2, d3, d4, d5] => { results := [.lit (.bool false)], args := [d1, d2, d3, d4, d5] }
  | _ => none }
def FnFileNameSettlesWrongFalsely : Prop := fnFileNameSettlesRow.holds Try.pinned (OpenSpec.ofChange fnFileNameSettlesWrong)

/-- 'zzlaws_ca_b1.FnResetForgetsLaterRecordsToo': WHATEVER THE INPUT: true; the input reads as it did. -/
def fnResetForgetsLaterRecordsTooSpec : ChangeSpec := { name := "fnResetForgetsLaterRecordsToo", fn := fun _ => fun
  | [d1, d2, d3, d4, d5] => { results := [.lit (.bool true)], args := [d1, d2, d3, d4, d5] }
  | _ => none }
def fnResetForgetsLaterRecordsTooRow : OpenClaim := { program := "qxb6612997a", sum := "6430abd684991af7d67107db129d9b46877dca424532d6c65d19e7923ff82b89", func := "example.com/trustforge/trustforge/zzlaws_ca_b1.FnResetForgetsLaterRecordsToo", spec := "fnResetForgetsLaterRecordsToo", apart := false }
def FnResetForgetsLaterRecordsTooSaid : Prop := fnResetForgetsLaterRecordsTooRow.holds Try.pinned (OpenSpec.ofChange fnResetForgetsLaterRecordsTooSpec)

/-- ITS FALSE NEIGHBOUR: 'it returns false'. Refute it at one input. -/
def fnResetForgetsLaterRecordsTooWrong : ChangeSpec := { name := "fnResetForgetsLaterRecordsToo", fn := fun _ => fun
  | [d1, d2, d3, d4, d5] => { results := [.lit (.bool false)], args := [d1, d2, d3, d4, d5] }
  | _ => none }
def FnResetForgetsLaterRecordsTooWrongFalsely : Prop := fnResetForgetsLaterRecordsTooRow.holds Try.pinned (OpenSpec.ofChange fnResetForgetsLaterRecordsTooWrong)

end Rows
end Go.Proofs.Qxb6612997a
