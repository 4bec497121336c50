/-
  THE PROOF OF 'Rows.FnMemberPathFoldSplitsIntoNamesSaid': the frame after the shells of this seat, a slice of strings opened by 'open_strs'; the walk in Qxb6606023aFold.
-/
import Derived.Test.Qxb6606023aRows
import Derived.Test.Qxb6606023aFold
import Derived.WalkKit
import Derived.ProofKit
import Derived.OpenShut
import Derived.ShutString
import Derived.ChangeOld
import Derived.Below
import Derived.Deep.Strs
namespace Go.Proofs.Qxb6606023a.fnMemberPathFoldSplitsIntoNames
open Go.ChangeShapes Go.WideShapes Go.ChangeAt Go.RowKit
open Go.Proofs.Qxb6606023a.Plain (nm)

theorem own : ownKnob Try.prog.godebug = none := by kernel_rfl
theorem laidOut : laidOutB Try.prog = true := by kernel_rfl

set_option maxRecDepth 100000 in
theorem lifted (os : Os) (started : os.Started) (H : Type) (enc : TypeId × Value → H) :
    ReturnsInHanded {} Try.checked os 7 .any (Rows.fnMemberPathFoldSplitsIntoNamesSpec.pre6 enc Try.prog Try.f7 Rows.fnMemberPathFoldSplitsIntoNamesRow.domain false) (Rows.fnMemberPathFoldSplitsIntoNamesSpec.post enc Try.prog Try.f7 false true false false) := by
  refine returnsInHanded_of_change (C := Try.checked) own started (by kernel_rfl) Try.func7
    (ChangeSpec.witness6 (enc := enc) (C := Try.checked) false ⟨#[], #[.slice none 0 0], []⟩ 8 (by kernel_rfl) (by kernel_rfl) (by kernel_rfl) (by kernel_rfl)) ?_
  intro W base args ds gs before hval0 hW hcnd _
  have hval : ∀ (j : Nat) t v, Try.f7.params[j]? = some t → args[j]? = some v → Value.okWide Try.prog W .any base t v := hval0
  have hW' := hW
  obtain ⟨p, q, hA0, hV, rfl, hfz, hnd⟩ := hW
  have hA : DataW.TrodAll enc Try.prog W 0 (fun _ => true) true Try.f7.params.toList args.toList ds p := hA0
  rw [Try.params7] at hA hval
  obtain ⟨v0, vs0, d0, ds0, p0, q0, hargs, rfl, rfl, h0, r0⟩ := trodAll_cons hA
  obtain ⟨rfl, rfl, rfl⟩ := trodAll_nil r0
  obtain rfl : args = #[v0] := by cases args; simp_all
  obtain ⟨rfl, rfl⟩ := trodVars_none hV
  obtain ⟨a0, len0, cap0, rfl⟩ := okWide_slice Try.underlying26 (hval 0 26 v0 rfl rfl)
  have k0 := h0
  have lt0 : ∀ x ∈ p0, x.block < W.heap.size := by obtain ⟨m, hm⟩ := k0; exact DataW.trod_lt m _ _ _ hm
  obtain ⟨ss, hn, w0⟩ : ∃ ss, len0 ≤ 9223372036854775807 ∧ Strs.Names W a0 len0 cap0 ss := by
    obtain ⟨fuel, hf⟩ := h0
    rcases Go.Deep.open_strs Try.underlying26 Try.underlying9 (by kernel_rfl) hf with ⟨hcs, _⟩ | ⟨x, l, c, m, Sx, hcs, _, hl, hm, hmm, _, hcell⟩
    · simp [Value.cells] at hcs
      obtain ⟨rfl, rfl, rfl⟩ := hcs
      exact ⟨[], by omega, rfl, fun _ => ⟨rfl, rfl⟩, fun j hj => absurd hj (Nat.not_lt_zero _), .inl rfl⟩
    · simp [Value.cells] at hcs
      obtain ⟨rfl, rfl, rfl⟩ := hcs
      have hlm : len0 ≤ m := by rw [hmm]; split <;> omega
      have hnm : ∀ j, j < len0 → nm ((List.range len0).map Sx) j = Sx j := by
        intro j hj
        simp [nm, List.getD, hj]
      unfold maxLen at hm
      refine ⟨(List.range len0).map Sx, by omega, by simp, (fun h => by cases h), fun j hj => ?_, ?_⟩
      · rw [hnm j hj]
        have := (hcell j (by omega)).2
        unfold maxLen at this
        exact this
      · by_cases hz : len0 = 0
        · exact .inl hz
        · obtain ⟨b, o, sp⟩ := x
          have hsp : sp = none := by simpa [Addr.add] using World.cell?_spot (hcell 0 (by omega)).1
          subst hsp
          refine .inr ⟨b, o, rfl, fun j hj => ?_⟩
          rw [hnm j hj]
          have := (hcell j (by omega)).1
          rw [Addr.add_lit] at this
          exact this
  clear hA0 hval0
  refine (Fold.walk a0 len0 cap0 ss W hn w0).mono fun e W' ⟨he, bel⟩ => ?_
  subst he
  exact ⟨_, rfl, _, _, _, [], _, [], hW', trodAll_mk1 (shut_bool Try.underlying4 _), (trodAll_cons_mk (Below.trod laidOut (by kernel_rfl) (of_decide_eq_true (by kernel_rfl)) k0 bel lt0) trodAll_mk0), rfl, bel.frame _, fun h => by cases h⟩

theorem over : Rows.fnMemberPathFoldSplitsIntoNamesRow.holds Try.pinned (OpenSpec.ofChange Rows.fnMemberPathFoldSplitsIntoNamesSpec) :=
  OpenClaim.holds_of_wide 7 Try.f7 rfl rfl rfl rfl rfl rfl rfl ⟨rfl, rfl, rfl, rfl, rfl⟩ rfl rfl rfl rfl rfl (by kernel_rfl) Try.func7 (by kernel_rfl)
    (of_decide_eq_true (by kernel_rfl)) (by unfold Func.isWrapper; first | (rw [if_pos (by decide +kernel)]; kernel_rfl) | (rw [if_neg (by decide +kernel)]; exact ⟨rfl, rfl⟩))
    (fun os started H enc _ => lifted os started H enc)

/-- THE STATEMENT -/
theorem proved : Rows.FnMemberPathFoldSplitsIntoNamesSaid := over
end Go.Proofs.Qxb6606023a.fnMemberPathFoldSplitsIntoNames
