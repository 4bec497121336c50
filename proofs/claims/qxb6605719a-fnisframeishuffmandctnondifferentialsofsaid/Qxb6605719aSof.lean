import Derived.Test.Qxb6605719aProg
import Derived.WalkKit
namespace Go.Proofs.Qxb6605719a.Sof
open Go.RowKit

theorem results_tmp4 {fn : Func} {t u v x : Tmp} (h : fn.results = #[.tmp t, .tmp u, .tmp v, .tmp x]) (tmps : Array Value) (P : Program) (w : World) :
    (results fn tmps).run P w = .ok (.tuple #[tmps.getD t undef, tmps.getD u undef, tmps.getD v undef, tmps.getD x undef]) w := by
  simp [results, h]

theorem isFrame_in (a : Int) (h1 : 192 ≤ a) (h2 : a ≤ 194) (w : World) :
    Calls Try.prog 9 #[.int .u8 a] w fun e w' => e = .returned (.bool true) ∧ w' = w := by
  go_enter Try.func9, Try.ntmps9
  go_wp2
  go_ret
  exact ⟨by simp, rfl⟩

theorem isFrame_out (a : Int) (h : a < 192 ∨ 194 < a) (w : World) :
    Calls Try.prog 9 #[.int .u8 a] w fun e w' => e = .returned (.bool false) ∧ w' = w := by
  rcases h with h | h
  · have h' : ¬ 192 ≤ a := by omega
    go_enter Try.func9, Try.ntmps9
    go_wp2
    go_ret
    exact ⟨by simp, rfl⟩
  · have h1 : 192 ≤ a := by omega
    have h' : ¬ a ≤ 194 := by omega
    go_enter Try.func9, Try.ntmps9
    go_wp2
    go_ret
    exact ⟨by simp, rfl⟩

theorem sof_in (a : Int) (h1 : 192 ≤ a) (h2 : a ≤ 194) (w : World) :
    Calls Try.prog 8 #[.int .u8 a] w fun e w' => e = .returned (.tuple #[.bool true, .bool true, .bool true, .bool false]) ∧ w' = w := by
  go_enter Try.func8, Try.ntmps8
  go_wp2
  all_goals exact bodyPost_ret (by simp [results, Try.results8, go_sem]) rfl ⟨rfl, rfl⟩

theorem sof_out (a : Int) (h : a < 192 ∨ 194 < a) (w : World) :
    Calls Try.prog 8 #[.int .u8 a] w fun e w' => ∃ b1 b2 b3 b4, (b1 && b2 && b3 && !b4) = false ∧ e = .returned (.tuple #[.bool b1, .bool b2, .bool b3, .bool b4]) ∧ w' = w := by
  rcases h with h | h
  all_goals
    go_enter Try.func8, Try.ntmps8
    go_wp2
    all_goals exact bodyPost_ret (results_tmp4 Try.results8 _ _ _) rfl ⟨_, _, _, _, by rfl, rfl, rfl⟩

theorem walk (a0 : Int) (w : World) :
    Calls Try.prog 3 #[.int .u8 a0] w fun e w' => e = .returned (.bool true) ∧ w' = w := by
  by_cases h : 192 ≤ a0 ∧ a0 ≤ 194
  · obtain ⟨h1, h2⟩ := h
    go_enter Try.func3, Try.ntmps3
    go_wp2_with (first | (go_at_call 8; refine (sof_in _ h1 h2 _).mono ?_; rintro e w' ⟨rfl, rfl⟩) | (go_at_call 9; refine (isFrame_in _ h1 h2 _).mono ?_; rintro e w' ⟨rfl, rfl⟩))
    go_ret
    exact ⟨rfl, rfl⟩
  · have h' : a0 < 192 ∨ 194 < a0 := by omega
    go_enter Try.func3, Try.ntmps3
    clear h
    go_wp2_with (first | (go_at_call 8; refine (sof_out _ h' _).mono ?_; rintro e w' ⟨b1, b2, b3, b4, hb, rfl, rfl⟩; cases b1 <;> cases b2 <;> cases b3 <;> cases b4 <;> simp at hb) | (go_at_call 9; refine (isFrame_out _ h' _).mono ?_; rintro e w' ⟨rfl, rfl⟩))
    all_goals go_ret
    all_goals exact ⟨rfl, rfl⟩

end Go.Proofs.Qxb6605719a.Sof
