/-
  DERIVED. GIVEN WITH THE SEED: THE CARDS: each row of YtlpkdagdfopchaaGreatDoorRows.lean that lists a variable, with what it lists TIED to the program's text (the seventh form; the later family's looks); each row that meets fmt, with fmt's text TOLD by the authors' own Lean function (tested against real Go, not proved from fmt's source: count such statements apart). THE CARD IS WHAT COUNTS. Prove the row's statement (the work); the ties are given (YtlpkdagdfopchaaGreatDoorTie.lean); close each card by the builder's one call (the guide's Derived/Test/ToyasCard.lean, 'card_holds'). Laid BY PROGRAM, IN A SANDBOX (cutbox-door.mjs). By AI agents, Wed Nov 11 2026. No macro, syntax, notation, axiom, sorry.
-/
import Derived.Test.YtlpkdagdfopchaaGreatDoorRows
import GoSem.ClaimSeven
namespace Go.Proofs.YtlpkdagdfopchaaGreatDoor
namespace Rows

/-- THE TIED CARD OF 'laws.FnURLSet'. -/
def fnURLSetCard : Claim7 := { stood := { row := fnURLSetRow, standIns := [], harness := (true, "70943188779c07dc82300a48b14581bb0d4b65da1dfdb6fc005ccc2560f29446"), looks := true }, kinds := [], alts := [], laidByText := true, laidKinds := [.data, .data, .widerDeep, .widerDeep, .data, .data, .data, .data, .data, .sentinel, .sentinel, .pinned, .pinned], laidTests := true, laidLooks := .later }
def FnURLSetCardSaid : Prop := Claim7.holds Tryz.pinned (.plain (OpenSpec.ofChange fnURLSetSpec)) fnURLSetCard

/-- THE SECOND FORM's CARD OF 'laws.FnURLSet'. -/
def fnURLSetUptoCard : Claim7 := { stood := { row := fnURLSetUptoRow, standIns := [], harness := (true, "70943188779c07dc82300a48b14581bb0d4b65da1dfdb6fc005ccc2560f29446"), looks := true }, kinds := [], alts := [], laidByText := true, laidKinds := [.data, .data, .widerDeep, .widerDeep, .data, .data, .data, .data, .data, .sentinel, .sentinel, .pinned, .pinned], laidTests := true, laidLooks := .later }
def FnURLSetUptoCardSaid : Prop := Claim7.holds Tryz.pinned (.plain (OpenSpec.upto fnURLSetSpec)) fnURLSetUptoCard
end Rows
end Go.Proofs.YtlpkdagdfopchaaGreatDoor
