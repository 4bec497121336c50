/-
  THE PROOF OF 'Rows.FnVirtualKeyLabelReadsBackPlaceToldSaid': fmt's text is told by the authors' own function (tested against real Go, not proved from fmt's source).
-/
import Derived.Test.Qxb6606023aFmtCards
import Derived.Test.Qxb6606023aFmtLabel
import Derived.ProofKit
import Derived.Stop.JoinedAt
import Derived.Stop.Texts
import Derived.Stop.JoinedTold
import Derived.Stop.FmtTextKit
import Derived.SizedLaws
import Derived.SevenToldRow
namespace Go.Proofs.Qxb6606023aFmt.Told
open Go.ChangeShapes Go.WideShapes Go.ChangeAt Go.RowKit Go.Kit
open Go.Extern.Stop Go.Stop Go.Extern
open Go.Proofs.Qxb6606023aFmt.Facts Go.Proofs.Qxb6606023aFmt.Read Go.Proofs.Qxb6606023aFmt.Label

theorem own : ownKnob Tryf.prog.godebug = none := by kernel_rfl

theorem t_parse : (FmtText.parse [118, 105, 114, 116, 117, 97, 108, 32, 107, 101, 121, 32, 37, 100]).map FmtText.glue = some [.lit [118, 105, 114, 116, 117, 97, 108, 32, 107, 101, 121, 32], .verb {} 100] := by rfl

theorem t_text (n : Int) (hw : (Lit.int .i64 n).wf = true) : FmtText.text "fmt.Sprintf" (reading n) = some (pre ++ Lib.itoa n) := by
  have hi := FmtText.operand_int_at (sh := shape3) (k := .i64) rfl rfl n hw
  rw [reading, FmtText.text_sprintf_glued t_parse (FmtText.operands_cons hi FmtText.operands_nil)]
  simp [FmtText.render, FmtText.printArg_d _ _ hw, pre]

theorem t_said (F : Interp) (n : Int) (h0 : 0 ≤ n) (h1 : n ≤ 9223372036854775807) : (FmtStop.textOf (F.told "fmt.Sprintf" (reading n) 0)).data.toList = pre ++ Lib.decDigits n.toNat := by
  have hw : (Lit.int .i64 n).wf = true := WalkArith.wf_i64 (by omega)
  have hl := FmtText.itoa_length_le hw
  rw [textOf_list, told_string F (t_text n hw) (by simp [pre]; omega)]
  unfold Lib.itoa
  rw [if_neg (by omega)]

theorem laidOut : laidOutB Tryf.prog = true := by kernel_rfl

theorem walk (F : Interp) (p : Int) (w : World) (hF : F.told.answers w.tape) :
    Calls Tryf.prog 3 #[.int .i64 p] w fun e w' => e = .returned (.bool true) ∧ Below w.heap.size w w' := by
  by_cases h : 0 ≤ p ∧ p < 9223372036854775806
  · obtain ⟨h0, h1⟩ := h
    exact law F.told p w hF h0 h1 _ _ rfl rfl (t_said F (p + 1) (by omega) (by omega)) (t_said F (p + 1 + 1) (by omega) (by omega))
  · exact law_out p w (by omega)

set_option maxRecDepth 100000 in
theorem lifted (os : Os) (started : os.Started) (H : Type) (enc : TypeId × Value → H) :
    ReturnsInTold none {} Tryf.checked os 3 .any Input.okWide ((OpenSpec.ofChange Rows.fnVirtualKeyLabelReadsBackPlaceSpec).preRow enc Tryf.prog Tryf.f3 [] false []) (fun F => ((OpenSpec.ofChange Rows.fnVirtualKeyLabelReadsBackPlaceSpec).at F).post enc Tryf.prog Tryf.f3 false true false false) (aloneAtReturn Tryf.prog) nothingAlways := by
  refine returnsInTold_of_row (C := Tryf.checked) (s := OpenSpec.ofChange Rows.fnVirtualKeyLabelReadsBackPlaceSpec) (by kernel_rfl) own started (by kernel_rfl) Tryf.func3
    (OpenSpec.witness_stopped (enc := enc) (C := Tryf.checked) false ⟨#[], #[.int .i64 1], []⟩ 8 (by kernel_rfl) (by kernel_rfl) (by kernel_rfl) (by kernel_rfl)) ?_
  intro F W base args ds gs before _ hF hval0 hW _ _ hsz _ _
  have hval : ∀ (j : Nat) t v, Tryf.f3.params[j]? = some t → args[j]? = some v → Value.okWide Tryf.prog W .any base t v := hval0
  have hW' := hW
  obtain ⟨p, q, hA0, hV, rfl, hfz, hnd⟩ := hW
  have hA : DataW.TrodAll enc Tryf.prog W 0 (fun _ => true) true Tryf.f3.params.toList args.toList ds p := hA0
  rw [Tryf.params3] at hA hval
  obtain ⟨v0, d0, rfl, rfl, h0⟩ := trodAll_one hA
  obtain ⟨rfl, rfl⟩ := trodVars_none hV
  obtain ⟨a, rfl, rfl, rfl, wa⟩ := open_int Tryf.underlying3 (hval 0 3 v0 rfl rfl) h0
  clear hA0 hval0
  refine (walk F a W hF).mono fun e W' ⟨he, bel⟩ => ?_
  subst he
  exact ⟨_, rfl, _, _, _, [], [], [], hW', trodAll_mk1 (shut_bool Tryf.underlying4 _), trodAll_mk1 (shut_int Tryf.underlying3 wa), rfl, bel.frame _, fun h => by cases h⟩

theorem stops : Tryf.pinned.checked.prog.stops = ["fmt.Sprintf"] := by kernel_rfl
theorem stopKnobs : Tryf.pinned.checked.prog.stopKnobs = [] := by kernel_rfl
theorem quiet (os : Os) : Stop.quiet Tryf.pinned.checked.prog os := by
  intro k hk
  rw [stopKnobs] at hk
  cases hk

/-- THE STATEMENT -/
theorem proved : Rows.FnVirtualKeyLabelReadsBackPlaceToldSaid :=
  Claim7.holds_of_told_any 3 Tryf.f3 "fmt.Sprintf" [] [] _ _ _ (by kernel_rfl) rfl rfl rfl laidOut (by kernel_rfl) rfl ⟨rfl, rfl, rfl, rfl, rfl, rfl, rfl⟩ rfl rfl (by kernel_rfl) (by kernel_rfl) Tryf.func3 (by kernel_rfl)
    (of_decide_eq_true (by kernel_rfl)) (by unfold Func.isWrapper; first | (rw [if_pos (by decide +kernel)]; kernel_rfl) | (rw [if_neg (by decide +kernel)]; exact ⟨rfl, rfl⟩)) stops.symm rfl stopKnobs.symm (by kernel_rfl)
    (by kernel_rfl) (by kernel_rfl) (by kernel_rfl) (by kernel_rfl) (by kernel_rfl) (by kernel_rfl) (by kernel_rfl) (by kernel_rfl) (by kernel_rfl) rfl (by kernel_rfl) rfl rfl
    rfl rfl
    rfl (by kernel_rfl) (by kernel_rfl) (by kernel_rfl) (by decide) (by kernel_rfl)
    (OpenClaim.moreEntering_of (by kernel_rfl) (by kernel_rfl) (by kernel_rfl) (by kernel_rfl) (by kernel_rfl) (by kernel_rfl) (by kernel_rfl) (by kernel_rfl) (by kernel_rfl) (by kernel_rfl))
    ⟨_, WideRow.started_initial, quiet _⟩
    (fun os started _ H enc _ => lifted os started H enc)

end Go.Proofs.Qxb6606023aFmt.Told
