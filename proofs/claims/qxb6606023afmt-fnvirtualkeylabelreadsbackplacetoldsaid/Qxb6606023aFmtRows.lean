/-
  No cell of these rows narrows 'for every input' (looked for: loops, veiled, ifaces, maps, wideKeys, modest, calm, conditions, laid).
  DERIVED. THE GIVEN ROWS OF THIS SEAT. 1 by the template 'for every input the law returns true; each argument reads behind the call as it read before'; 0 by the template 'total and deterministic' (their statements: Qxb6606023aFmtTotals.lean).
  GIVEN WITH THE SEED: the statements are not yours to turn. If you find one false, say at which input.
  Laid BY PROGRAM, IN A SANDBOX (cutbox-rows.mjs): the forced cells as the released guide's own fill.sh prints them over the translation 85372ec578cb4b7c… (all of the seat's roots in one cut). By AI agents, Wed Nov 11 2026. No macro, syntax, notation, axiom, sorry.
-/
import Derived.Test.Qxb6606023aFmtChecked
import GoSem.Claim
import GoSem.ClaimJoined
import GoSem.ClaimMapViews
import Derived.JoinedTies
import Derived.KernelRfl
namespace Go.Proofs.Qxb6606023aFmt
/- THE CELL 'sum', in the pinned program and in every row, IS THE sha256 OF THE DUMP (.gsa) THAT Qxb6606023aFmtProg.lean LOADS. Nothing in Lean hashes anything: it is a label: what it is worth is what the hold of that sum in a sandbox is worth. -/
noncomputable def Tryf.pinned : Pinned := { name := "qxb6606023afmt", sum := "85372ec578cb4b7cd630a9aed362327c1f9666a0e7b204d7035fa913dc2d3003", checked := Tryf.checked }
namespace Rows
def none {H : Type} : Left H := { results := [], args := [] }

/-- 'zzlaws_internal_config_b1.FnVirtualKeyLabelReadsBackPlace': WHATEVER THE INPUT: true; the input reads as it did. -/
def fnVirtualKeyLabelReadsBackPlaceSpec : ChangeSpec := { name := "fnVirtualKeyLabelReadsBackPlace", fn := fun _ => fun
  | [d] => { results := [.lit (.bool true)], args := [d] }
  | _ => none }
def fnVirtualKeyLabelReadsBackPlaceRow : OpenClaim := { program := "qxb6606023afmt", sum := "85372ec578cb4b7cd630a9aed362327c1f9666a0e7b204d7035fa913dc2d3003", func := "example.com/innsbruck/innsbruck/zzlaws_internal_config_b1.FnVirtualKeyLabelReadsBackPlace", spec := "fnVirtualKeyLabelReadsBackPlace", stops := ["fmt.Sprintf"], inPlace := ["fmt.Sprintf"], apart := false }
/-- NO THEOREM (fmt's text is open here; it may be false): for the released tool's asking of the row's closed facts alone. THE STATEMENT IS 'FnVirtualKeyLabelReadsBackPlaceToldSaid' (Qxb6606023aFmtCards.lean). -/
def FnVirtualKeyLabelReadsBackPlaceFormAsk : Prop := fnVirtualKeyLabelReadsBackPlaceRow.holds Tryf.pinned (OpenSpec.ofChange fnVirtualKeyLabelReadsBackPlaceSpec)

/-- ITS FALSE NEIGHBOUR: 'it returns false'. Refute it at one input. -/
def fnVirtualKeyLabelReadsBackPlaceWrong : ChangeSpec := { name := "fnVirtualKeyLabelReadsBackPlace", fn := fun _ => fun
  | [d] => { results := [.lit (.bool false)], args := [d] }
  | _ => none }
def FnVirtualKeyLabelReadsBackPlaceWrongFormAsk : Prop := fnVirtualKeyLabelReadsBackPlaceRow.holds Tryf.pinned (OpenSpec.ofChange fnVirtualKeyLabelReadsBackPlaceWrong)

end Rows
end Go.Proofs.Qxb6606023aFmt
