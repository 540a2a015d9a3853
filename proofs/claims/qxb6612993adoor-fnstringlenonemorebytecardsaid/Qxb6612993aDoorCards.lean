/-
  DERIVED. GIVEN WITH THE SEED: THE CARDS: each row of Qxb6612993aDoorRows.lean that lists a variable, with what it lists TIED to the program's text (the seventh form; the later family's looks); each row that meets fmt, with fmt's text TOLD by the authors' own Lean function (tested against real Go, not proved from fmt's source: count such statements apart). THE CARD IS WHAT COUNTS. Prove the row's statement (the work); the ties are given (Qxb6612993aDoorTie.lean); close each card by the builder's one call (the guide's Derived/Test/ToyasCard.lean, 'card_holds'). Laid BY PROGRAM, IN A SANDBOX (cutbox-door.mjs). By AI agents, Wed Nov 11 2026. No macro, syntax, notation, axiom, sorry.
-/
import Derived.Test.Qxb6612993aDoorRows
import GoSem.ClaimSeven
namespace Go.Proofs.Qxb6612993aDoor
namespace Rows

/-- THE TIED CARD OF 'zzlaws_internal_bencode_b1.FnStringLenOneMoreByte'. -/
def fnStringLenOneMoreByteCard : Claim7 := { stood := { row := fnStringLenOneMoreByteRow, standIns := [], harness := (true, "98fc7cbdad5354746603f8f00da706a058154c68d1dbc40d533970ce08482605"), looks := false }, kinds := [], alts := [], laidByText := true, laidKinds := [.data, .data, .data], laidTests := true, laidLooks := .later }
def FnStringLenOneMoreByteCardSaid : Prop := Claim7.holds Tryd.pinned (.plain (OpenSpec.ofChange fnStringLenOneMoreByteSpec)) fnStringLenOneMoreByteCard
end Rows
end Go.Proofs.Qxb6612993aDoor
