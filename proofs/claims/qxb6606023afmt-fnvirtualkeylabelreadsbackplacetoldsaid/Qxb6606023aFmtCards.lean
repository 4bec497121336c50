/-
  DERIVED. GIVEN WITH THE SEED: THE CARDS: each row of Qxb6606023aFmtRows.lean that lists a variable, with what it lists TIED to the program's text (the seventh form; the later family's looks); each row that meets fmt, with fmt's text TOLD by the authors' own Lean function (tested against real Go, not proved from fmt's source: count such statements apart). THE CARD IS WHAT COUNTS. Prove the row's statement (the work); the ties are given (Qxb6606023aFmtTie.lean); close each card by the builder's one call (the guide's Derived/Test/ToyasCard.lean, 'card_holds'). Laid BY PROGRAM, IN A SANDBOX (cutbox-door.mjs). By AI agents, Wed Nov 11 2026. No macro, syntax, notation, axiom, sorry.
-/
import Derived.Test.Qxb6606023aFmtRows
import GoSem.ClaimSeven
namespace Go.Proofs.Qxb6606023aFmt
namespace Rows

/-- THE TOLD CARD OF 'zzlaws_internal_config_b1.FnVirtualKeyLabelReadsBackPlace'. -/
def fnVirtualKeyLabelReadsBackPlaceCard : Claim7 := { stood := { row := fnVirtualKeyLabelReadsBackPlaceRow, standIns := [], harness := (true, "751d6384513396d94b8ccc0d2133c974d0c71cca042141d9b8ce7d3686a73687"), looks := false }, told := true, goes := false }
def FnVirtualKeyLabelReadsBackPlaceToldSaid : Prop := Claim7.holds Tryf.pinned (.plain (OpenSpec.ofChange fnVirtualKeyLabelReadsBackPlaceSpec)) fnVirtualKeyLabelReadsBackPlaceCard
/-- ITS FALSE NEIGHBOUR. Refute it at one input. -/
def FnVirtualKeyLabelReadsBackPlaceToldWrongFalsely : Prop := Claim7.holds Tryf.pinned (.plain (OpenSpec.ofChange fnVirtualKeyLabelReadsBackPlaceWrong)) fnVirtualKeyLabelReadsBackPlaceCard
end Rows
end Go.Proofs.Qxb6606023aFmt
