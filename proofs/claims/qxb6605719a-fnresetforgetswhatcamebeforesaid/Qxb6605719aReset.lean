import Derived.Test.Qxb6605719aHead
namespace Go.Proofs.Qxb6605719a.Reset
open Go.RowKit Go.Proofs.Qxb6605719a.Base Go.Proofs.Qxb6605719a.Exif Go.Proofs.Qxb6605719a.Clone Go.Proofs.Qxb6605719a.Head

theorem zz_any (ps : Option Addr) (ns cs : Nat) (rm : Int) (p0 : Option Addr) (n0 c0 : Nat) (st mk ln lf sa : Int) (ex fr : Bool) (eb ee : Int) (w : World) :
    Calls Try.prog 18 #[.slice ps ns cs, .int .i64 rm, .slice p0 n0 c0, .int .i64 st, .int .u8 mk, .int .i64 ln, .int .i64 lf, .int .i64 sa, .bool ex, .bool fr, .int .i64 eb, .int .i64 ee] w fun e w' => (∃ b, e = .returned (.bool b)) ∧ w' = w := by
  go_enter Try.func18, Try.ntmps18
  go_wp2
  all_goals (go_ret; exact ⟨⟨_, rfl⟩, rfl⟩)

theorem zz_small (ps : Option Addr) (ns cs : Nat) (rm : Int) (p0 : Option Addr) (n0 c0 : Nat) (st mk ln lf sa : Int) (ex fr : Bool) (eb ee : Int) (w : World) (h : ns ≤ 524288) (h' : n0 ≤ 524288) :
    Calls Try.prog 18 #[.slice ps ns cs, .int .i64 rm, .slice p0 n0 c0, .int .i64 st, .int .u8 mk, .int .i64 ln, .int .i64 lf, .int .i64 sa, .bool ex, .bool fr, .int .i64 eb, .int .i64 ee] w fun e w' => e = .returned (.bool true) ∧ w' = w := by
  go_enter Try.func18, Try.ntmps18
  go_wp2
  go_ret
  exact ⟨rfl, rfl⟩

set_option maxRecDepth 100000 in
set_option maxHeartbeats 12000000 in
theorem early_out (ps : Option Addr) (ns cs : Nat) (rm : Int) (p0 : Option Addr) (n0 c0 : Nat) (st mk ln lf sa : Int) (ex fr : Bool) (eb ee : Int) (w : World) (h : ¬ (ns ≤ 524288 ∧ n0 ≤ 524288 ∧ 0 ≤ rm ∧ rm ≤ 65536 ∧ 0 ≤ st ∧ st ≤ 6 ∧ 0 ≤ ln ∧ ln ≤ 65536 ∧ 0 ≤ lf ∧ lf ≤ 65536 ∧ -1 ≤ sa ∧ sa ≤ n0 ∧ 0 ≤ eb ∧ eb ≤ n0 ∧ 0 ≤ ee ∧ ee ≤ n0)) :
    Calls Try.prog 6 #[.slice ps ns cs, .int .i64 rm, .slice p0 n0 c0, .int .i64 st, .int .u8 mk, .int .i64 ln, .int .i64 lf, .int .i64 sa, .bool ex, .bool fr, .int .i64 eb, .int .i64 ee] w fun e w' => e = .returned (.bool true) ∧ w' = w := by
  by_cases g0 : ns ≤ 524288
  rotate_left
  · clear h
    go_enter Try.func6, Try.ntmps6
    go_wp2_with (go_at_call 18; refine (zz_any _ _ _ _ _ _ _ _ _ _ _ _ _ _ _ _ _).mono ?_; rintro e w' ⟨⟨b, rfl⟩, hw⟩; subst w'; cases b)
    all_goals (go_ret; exact ⟨rfl, rfl⟩)
  by_cases g1 : n0 ≤ 524288
  rotate_left
  · clear h
    go_enter Try.func6, Try.ntmps6
    go_wp2_with (go_at_call 18; refine (zz_any _ _ _ _ _ _ _ _ _ _ _ _ _ _ _ _ _).mono ?_; rintro e w' ⟨⟨b, rfl⟩, hw⟩; subst w'; cases b)
    all_goals (go_ret; exact ⟨rfl, rfl⟩)
  by_cases g2 : 0 ≤ rm
  rotate_left
  · clear h
    go_enter Try.func6, Try.ntmps6
    go_wp2_with (go_at_call 18; refine (zz_small _ _ _ _ _ _ _ _ _ _ _ _ _ _ _ _ _ (by omega) (by omega)).mono ?_; rintro e w' ⟨rfl, hw⟩; subst w')
    all_goals (go_ret; exact ⟨rfl, rfl⟩)
  by_cases g3 : rm ≤ 65536
  rotate_left
  · clear h
    go_enter Try.func6, Try.ntmps6
    go_wp2_with (go_at_call 18; refine (zz_small _ _ _ _ _ _ _ _ _ _ _ _ _ _ _ _ _ (by omega) (by omega)).mono ?_; rintro e w' ⟨rfl, hw⟩; subst w')
    all_goals (go_ret; exact ⟨rfl, rfl⟩)
  by_cases g4 : 0 ≤ st
  rotate_left
  · clear h
    go_enter Try.func6, Try.ntmps6
    go_wp2_with (go_at_call 18; refine (zz_small _ _ _ _ _ _ _ _ _ _ _ _ _ _ _ _ _ (by omega) (by omega)).mono ?_; rintro e w' ⟨rfl, hw⟩; subst w')
    all_goals (go_ret; exact ⟨rfl, rfl⟩)
  by_cases g5 : st ≤ 6
  rotate_left
  · clear h
    go_enter Try.func6, Try.ntmps6
    go_wp2_with (go_at_call 18; refine (zz_small _ _ _ _ _ _ _ _ _ _ _ _ _ _ _ _ _ (by omega) (by omega)).mono ?_; rintro e w' ⟨rfl, hw⟩; subst w')
    all_goals (go_ret; exact ⟨rfl, rfl⟩)
  by_cases g6 : 0 ≤ ln
  rotate_left
  · clear h
    go_enter Try.func6, Try.ntmps6
    go_wp2_with (go_at_call 18; refine (zz_small _ _ _ _ _ _ _ _ _ _ _ _ _ _ _ _ _ (by omega) (by omega)).mono ?_; rintro e w' ⟨rfl, hw⟩; subst w')
    all_goals (go_ret; exact ⟨rfl, rfl⟩)
  by_cases g7 : ln ≤ 65536
  rotate_left
  · clear h
    go_enter Try.func6, Try.ntmps6
    go_wp2_with (go_at_call 18; refine (zz_small _ _ _ _ _ _ _ _ _ _ _ _ _ _ _ _ _ (by omega) (by omega)).mono ?_; rintro e w' ⟨rfl, hw⟩; subst w')
    all_goals (go_ret; exact ⟨rfl, rfl⟩)
  by_cases g8 : 0 ≤ lf
  rotate_left
  · clear h
    go_enter Try.func6, Try.ntmps6
    go_wp2_with (go_at_call 18; refine (zz_small _ _ _ _ _ _ _ _ _ _ _ _ _ _ _ _ _ (by omega) (by omega)).mono ?_; rintro e w' ⟨rfl, hw⟩; subst w')
    all_goals (go_ret; exact ⟨rfl, rfl⟩)
  by_cases g9 : lf ≤ 65536
  rotate_left
  · clear h
    go_enter Try.func6, Try.ntmps6
    go_wp2_with (go_at_call 18; refine (zz_small _ _ _ _ _ _ _ _ _ _ _ _ _ _ _ _ _ (by omega) (by omega)).mono ?_; rintro e w' ⟨rfl, hw⟩; subst w')
    all_goals (go_ret; exact ⟨rfl, rfl⟩)
  by_cases g10 : -1 ≤ sa
  rotate_left
  · clear h
    go_enter Try.func6, Try.ntmps6
    go_wp2_with (go_at_call 18; refine (zz_small _ _ _ _ _ _ _ _ _ _ _ _ _ _ _ _ _ (by omega) (by omega)).mono ?_; rintro e w' ⟨rfl, hw⟩; subst w')
    all_goals (go_ret; exact ⟨rfl, rfl⟩)
  by_cases g11 : sa ≤ n0
  rotate_left
  · clear h
    go_enter Try.func6, Try.ntmps6
    go_wp2_with (go_at_call 18; refine (zz_small _ _ _ _ _ _ _ _ _ _ _ _ _ _ _ _ _ (by omega) (by omega)).mono ?_; rintro e w' ⟨rfl, hw⟩; subst w')
    all_goals (go_ret; exact ⟨rfl, rfl⟩)
  by_cases g12 : 0 ≤ eb
  rotate_left
  · clear h
    go_enter Try.func6, Try.ntmps6
    go_wp2_with (go_at_call 18; refine (zz_small _ _ _ _ _ _ _ _ _ _ _ _ _ _ _ _ _ (by omega) (by omega)).mono ?_; rintro e w' ⟨rfl, hw⟩; subst w')
    all_goals (go_ret; exact ⟨rfl, rfl⟩)
  by_cases g13 : eb ≤ n0
  rotate_left
  · clear h
    go_enter Try.func6, Try.ntmps6
    go_wp2_with (go_at_call 18; refine (zz_small _ _ _ _ _ _ _ _ _ _ _ _ _ _ _ _ _ (by omega) (by omega)).mono ?_; rintro e w' ⟨rfl, hw⟩; subst w')
    all_goals (go_ret; exact ⟨rfl, rfl⟩)
  by_cases g14 : 0 ≤ ee
  rotate_left
  · clear h
    go_enter Try.func6, Try.ntmps6
    go_wp2_with (go_at_call 18; refine (zz_small _ _ _ _ _ _ _ _ _ _ _ _ _ _ _ _ _ (by omega) (by omega)).mono ?_; rintro e w' ⟨rfl, hw⟩; subst w')
    all_goals (go_ret; exact ⟨rfl, rfl⟩)
  by_cases g15 : ee ≤ n0
  rotate_left
  · clear h
    go_enter Try.func6, Try.ntmps6
    go_wp2_with (go_at_call 18; refine (zz_small _ _ _ _ _ _ _ _ _ _ _ _ _ _ _ _ _ (by omega) (by omega)).mono ?_; rintro e w' ⟨rfl, hw⟩; subst w')
    all_goals (go_ret; exact ⟨rfl, rfl⟩)
  exact absurd ⟨g0, g1, g2, g3, g4, g5, g6, g7, g8, g9, g10, g11, g12, g13, g14, g15⟩ h

end Go.Proofs.Qxb6605719a.Reset
