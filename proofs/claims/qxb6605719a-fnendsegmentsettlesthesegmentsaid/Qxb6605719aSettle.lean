import Derived.Test.Qxb6605719aClone
namespace Go.Proofs.Qxb6605719a.Settle
open Go.RowKit Go.Proofs.Qxb6605719a.Base Go.Proofs.Qxb6605719a.Exif Go.Proofs.Qxb6605719a.Clone

theorem zz_any (p0 : Option Addr) (n0 c0 : Nat) (st mk ln lf sa : Int) (ex fr : Bool) (eb ee : Int) (w : World) :
    Calls Try.prog 10 #[.slice p0 n0 c0, .int .i64 st, .int .u8 mk, .int .i64 ln, .int .i64 lf, .int .i64 sa, .bool ex, .bool fr, .int .i64 eb, .int .i64 ee] w fun e w' => (∃ b, e = .returned (.bool b)) ∧ w' = w := by
  go_enter Try.func10, Try.ntmps10
  go_wp2
  all_goals (go_ret; exact ⟨⟨_, rfl⟩, rfl⟩)

theorem zz_small (p0 : Option Addr) (n0 c0 : Nat) (st mk ln lf sa : Int) (ex fr : Bool) (eb ee : Int) (w : World) (h : n0 ≤ 1048576) :
    Calls Try.prog 10 #[.slice p0 n0 c0, .int .i64 st, .int .u8 mk, .int .i64 ln, .int .i64 lf, .int .i64 sa, .bool ex, .bool fr, .int .i64 eb, .int .i64 ee] w fun e w' => e = .returned (.bool true) ∧ w' = w := by
  go_enter Try.func10, Try.ntmps10
  go_wp2
  go_ret
  exact ⟨rfl, rfl⟩

set_option maxRecDepth 100000 in
set_option maxHeartbeats 8000000 in
theorem early (p0 : Option Addr) (n0 c0 : Nat) (st mk ln lf sa : Int) (ex fr : Bool) (eb ee : Int) (w : World) (h : ¬ (n0 ≤ 1048576 ∧ 0 ≤ st ∧ st ≤ 6 ∧ 0 ≤ ln ∧ ln ≤ 65536 ∧ 0 ≤ lf ∧ lf ≤ 65536 ∧ -1 ≤ sa ∧ sa ≤ n0 ∧ 0 ≤ eb ∧ eb ≤ n0 ∧ 0 ≤ ee ∧ ee ≤ n0)) :
    Calls Try.prog 4 #[.slice p0 n0 c0, .int .i64 st, .int .u8 mk, .int .i64 ln, .int .i64 lf, .int .i64 sa, .bool ex, .bool fr, .int .i64 eb, .int .i64 ee] w fun e w' => e = .returned (.bool true) ∧ w' = w := by
  by_cases g0 : n0 ≤ 1048576
  rotate_left
  · clear h
    go_enter Try.func4, Try.ntmps4
    go_wp2_with (go_at_call 10; refine (zz_any _ _ _ _ _ _ _ _ _ _ _ _ _).mono ?_; rintro e w' ⟨⟨b, rfl⟩, hw⟩; subst w'; cases b)
    all_goals (go_ret; exact ⟨rfl, rfl⟩)
  by_cases g1 : 0 ≤ st
  rotate_left
  · clear h
    go_enter Try.func4, Try.ntmps4
    go_wp2_with (go_at_call 10; refine (zz_small _ _ _ _ _ _ _ _ _ _ _ _ _ (by omega)).mono ?_; rintro e w' ⟨rfl, hw⟩; subst w')
    all_goals (go_ret; exact ⟨rfl, rfl⟩)
  by_cases g2 : st ≤ 6
  rotate_left
  · clear h
    go_enter Try.func4, Try.ntmps4
    go_wp2_with (go_at_call 10; refine (zz_small _ _ _ _ _ _ _ _ _ _ _ _ _ (by omega)).mono ?_; rintro e w' ⟨rfl, hw⟩; subst w')
    all_goals (go_ret; exact ⟨rfl, rfl⟩)
  by_cases g3 : 0 ≤ ln
  rotate_left
  · clear h
    go_enter Try.func4, Try.ntmps4
    go_wp2_with (go_at_call 10; refine (zz_small _ _ _ _ _ _ _ _ _ _ _ _ _ (by omega)).mono ?_; rintro e w' ⟨rfl, hw⟩; subst w')
    all_goals (go_ret; exact ⟨rfl, rfl⟩)
  by_cases g4 : ln ≤ 65536
  rotate_left
  · clear h
    go_enter Try.func4, Try.ntmps4
    go_wp2_with (go_at_call 10; refine (zz_small _ _ _ _ _ _ _ _ _ _ _ _ _ (by omega)).mono ?_; rintro e w' ⟨rfl, hw⟩; subst w')
    all_goals (go_ret; exact ⟨rfl, rfl⟩)
  by_cases g5 : 0 ≤ lf
  rotate_left
  · clear h
    go_enter Try.func4, Try.ntmps4
    go_wp2_with (go_at_call 10; refine (zz_small _ _ _ _ _ _ _ _ _ _ _ _ _ (by omega)).mono ?_; rintro e w' ⟨rfl, hw⟩; subst w')
    all_goals (go_ret; exact ⟨rfl, rfl⟩)
  by_cases g6 : lf ≤ 65536
  rotate_left
  · clear h
    go_enter Try.func4, Try.ntmps4
    go_wp2_with (go_at_call 10; refine (zz_small _ _ _ _ _ _ _ _ _ _ _ _ _ (by omega)).mono ?_; rintro e w' ⟨rfl, hw⟩; subst w')
    all_goals (go_ret; exact ⟨rfl, rfl⟩)
  by_cases g7 : -1 ≤ sa
  rotate_left
  · clear h
    go_enter Try.func4, Try.ntmps4
    go_wp2_with (go_at_call 10; refine (zz_small _ _ _ _ _ _ _ _ _ _ _ _ _ (by omega)).mono ?_; rintro e w' ⟨rfl, hw⟩; subst w')
    all_goals (go_ret; exact ⟨rfl, rfl⟩)
  by_cases g8 : sa ≤ n0
  rotate_left
  · clear h
    go_enter Try.func4, Try.ntmps4
    go_wp2_with (go_at_call 10; refine (zz_small _ _ _ _ _ _ _ _ _ _ _ _ _ (by omega)).mono ?_; rintro e w' ⟨rfl, hw⟩; subst w')
    all_goals (go_ret; exact ⟨rfl, rfl⟩)
  by_cases g9 : 0 ≤ eb
  rotate_left
  · clear h
    go_enter Try.func4, Try.ntmps4
    go_wp2_with (go_at_call 10; refine (zz_small _ _ _ _ _ _ _ _ _ _ _ _ _ (by omega)).mono ?_; rintro e w' ⟨rfl, hw⟩; subst w')
    all_goals (go_ret; exact ⟨rfl, rfl⟩)
  by_cases g10 : eb ≤ n0
  rotate_left
  · clear h
    go_enter Try.func4, Try.ntmps4
    go_wp2_with (go_at_call 10; refine (zz_small _ _ _ _ _ _ _ _ _ _ _ _ _ (by omega)).mono ?_; rintro e w' ⟨rfl, hw⟩; subst w')
    all_goals (go_ret; exact ⟨rfl, rfl⟩)
  by_cases g11 : 0 ≤ ee
  rotate_left
  · clear h
    go_enter Try.func4, Try.ntmps4
    go_wp2_with (go_at_call 10; refine (zz_small _ _ _ _ _ _ _ _ _ _ _ _ _ (by omega)).mono ?_; rintro e w' ⟨rfl, hw⟩; subst w')
    all_goals (go_ret; exact ⟨rfl, rfl⟩)
  by_cases g12 : ee ≤ n0
  rotate_left
  · clear h
    go_enter Try.func4, Try.ntmps4
    go_wp2_with (go_at_call 10; refine (zz_small _ _ _ _ _ _ _ _ _ _ _ _ _ (by omega)).mono ?_; rintro e w' ⟨rfl, hw⟩; subst w')
    all_goals (go_ret; exact ⟨rfl, rfl⟩)
  exact absurd ⟨g0, g1, g2, g3, g4, g5, g6, g7, g8, g9, g10, g11, g12⟩ h

set_option maxRecDepth 100000 in
set_option maxHeartbeats 8000000 in
theorem early_short (p0 : Option Addr) (n0 c0 : Nat) (st ln lf sa : Int) (ex fr : Bool) (eb ee : Int) (w : World) (g0 : n0 ≤ 1048576) (g1 : 0 ≤ st) (g2 : st ≤ 6) (g3 : 0 ≤ ln) (g4 : ln ≤ 65536) (g5 : 0 ≤ lf) (g6 : lf ≤ 65536) (g7 : -1 ≤ sa) (g8 : sa ≤ n0) (g9 : 0 ≤ eb) (g10 : eb ≤ n0) (g11 : 0 ≤ ee) (g12 : ee ≤ n0) (h0 : 0 ≤ sa) (h4 : n0 < sa + 4) :
    Calls Try.prog 4 #[.slice p0 n0 c0, .int .i64 st, .int .u8 225, .int .i64 ln, .int .i64 lf, .int .i64 sa, .bool ex, .bool fr, .int .i64 eb, .int .i64 ee] w fun e w' => e = .returned (.bool true) ∧ w' = w := by
  go_enter Try.func4, Try.ntmps4
  go_wp2_with (go_at_call 10; refine (zz_small _ _ _ _ _ _ _ _ _ _ _ _ _ (by omega)).mono ?_; rintro e w' ⟨rfl, hw⟩; subst w')
  all_goals (go_ret; exact ⟨rfl, rfl⟩)

theorem end_neg0 (p0 : Option Addr) (n0 c0 : Nat) (v1 v2 v3 v4 v5 : Int) (v6 v7 : Bool) (v8 v9 : Int) (h5 : v5 < 0) (W : World) :
    Calls Try.prog 13 #[.pointer (some ⟨W.heap.size, 0, none⟩)] (W.alloc (.cells #[.slice p0 n0 c0, .int .i64 v1, .int .u8 v2, .int .i64 v3, .int .i64 v4, .int .i64 v5, .bool v6, .bool v7, .int .i64 v8, .int .i64 v9] 53)) fun e w' =>
      e = .returned (.tuple #[]) ∧ ∃ m, w' = (W.alloc (.cells #[.slice p0 n0 c0, .int .i64 1, .int .u8 v2, .int .i64 v3, .int .i64 v4, .int .i64 v5, .bool v6, .bool v7, .int .i64 v8, .int .i64 v9] 53)).drewN m :=
  end_neg p0 n0 c0 v1 v2 v3 v4 v5 v6 v7 v8 v9 h5 W 0

set_option maxRecDepth 100000 in
set_option maxHeartbeats 1600000 in
theorem main_neg (p0 : Option Addr) (n0 c0 : Nat) (st mk ln lf sa : Int) (ex fr : Bool) (eb ee : Int) (w : World) (q0 : Option Addr) (d0 : Nat) (Q : World → Prop) (hQ : ∀ w1, Q w1 → Below w.heap.size w w1) (hcl : Hid (Calls Try.prog 11 #[.slice p0 n0 c0] w fun e w' => e = .returned (.slice q0 n0 d0) ∧ Q w')) (hk : Kept q0 n0 d0) (g0 : n0 ≤ 1048576) (g1 : 0 ≤ st) (g2 : st ≤ 6) (g3 : 0 ≤ ln) (g4 : ln ≤ 65536) (g5 : 0 ≤ lf) (g6 : lf ≤ 65536) (g7 : -1 ≤ sa) (g8 : sa ≤ n0) (g9 : 0 ≤ eb) (g10 : eb ≤ n0) (g11 : 0 ≤ ee) (g12 : ee ≤ n0) (h0 : sa < 0) :
    Calls Try.prog 4 #[.slice p0 n0 c0, .int .i64 st, .int .u8 mk, .int .i64 ln, .int .i64 lf, .int .i64 sa, .bool ex, .bool fr, .int .i64 eb, .int .i64 ee] w fun e w' => e = .returned (.bool true) ∧ Below w.heap.size w w' := by
  have HQ : Hid (∀ w1, Q w1 → Below w.heap.size w w1) := hQ
  clear hQ
  go_enter Try.func4, Try.ntmps4
  go_wp2_with (first
    | (go_at_call 10; refine (zz_small _ _ _ _ _ _ _ _ _ _ _ _ _ (by omega)).mono ?_; rintro e w' ⟨rfl, hw⟩; subst w')
    | (go_at_call 11; refine (Hid.out hcl).mono ?_; rintro e w1 ⟨rfl, hb⟩)
    | (go_at_call 12; refine (new_any _ _ _ _ _ _ _ _ _ _ _ _ _).mono ?_; rintro e w5 ⟨rfl, hw⟩; subst w5)
    | (go_at_call 13; refine (end_neg0 _ _ _ _ _ _ _ _ _ _ _ _ (by omega) _).mono ?_; rintro e w6 ⟨rfl, m6, hw⟩; subst w6)
    | (go_at_call 13; refine (end_neg _ _ _ _ _ _ _ _ _ _ _ _ (by omega) _ _).mono ?_; rintro e w6 ⟨rfl, m6, hw⟩; subst w6)
    | (go_at_call 14; refine (fields_new _ _ _ _ _ _ _ _ _ _ _ _ _ _).mono ?_; rintro e w7 ⟨rfl, m7, hw⟩; subst w7)
    | (go_at_call 15; refine (same_any _ _ _ hk _).mono ?_; rintro e w8 ⟨rfl, m8, hw⟩; subst w8)
    | fail)
  go_ret
  exact ⟨rfl, below_drewN ((HQ.out w1 hb).alloc (HQ.out w1 hb).size _) _⟩

set_option maxRecDepth 100000 in
set_option maxHeartbeats 1600000 in
theorem main_frame (p0 : Option Addr) (n0 c0 : Nat) (st mk ln lf sa : Int) (ex fr : Bool) (eb ee : Int) (w : World) (q0 : Option Addr) (d0 : Nat) (Q : World → Prop) (hQ : ∀ w1, Q w1 → Below w.heap.size w w1) (hcl : Hid (Calls Try.prog 11 #[.slice p0 n0 c0] w fun e w' => e = .returned (.slice q0 n0 d0) ∧ Q w')) (hk : Kept q0 n0 d0) (g0 : n0 ≤ 1048576) (g1 : 0 ≤ st) (g2 : st ≤ 6) (g3 : 0 ≤ ln) (g4 : ln ≤ 65536) (g5 : 0 ≤ lf) (g6 : lf ≤ 65536) (g7 : -1 ≤ sa) (g8 : sa ≤ n0) (g9 : 0 ≤ eb) (g10 : eb ≤ n0) (g11 : 0 ≤ ee) (g12 : ee ≤ n0) (h0 : 0 ≤ sa) (hm : (mk == 225) = false) :
    Calls Try.prog 4 #[.slice p0 n0 c0, .int .i64 st, .int .u8 mk, .int .i64 ln, .int .i64 lf, .int .i64 sa, .bool ex, .bool fr, .int .i64 eb, .int .i64 ee] w fun e w' => e = .returned (.bool true) ∧ Below w.heap.size w w' := by
  have HQ : Hid (∀ w1, Q w1 → Below w.heap.size w w1) := hQ
  clear hQ
  go_enter Try.func4, Try.ntmps4
  go_wp2_with (first
    | (go_at_call 10; refine (zz_small _ _ _ _ _ _ _ _ _ _ _ _ _ (by omega)).mono ?_; rintro e w' ⟨rfl, hw⟩; subst w')
    | (go_at_call 11; refine (Hid.out hcl).mono ?_; rintro e w1 ⟨rfl, hb⟩)
    | (go_at_call 12; refine (new_any _ _ _ _ _ _ _ _ _ _ _ _ _).mono ?_; rintro e w5 ⟨rfl, hw⟩; subst w5)
    | (go_at_call 13; refine (end_frame0 _ _ _ _ _ _ _ _ _ _ _ _ (by omega) hm _).mono ?_; rintro e w6 ⟨rfl, m6, hw⟩; subst w6)
    | (go_at_call 13; refine (end_frame _ _ _ _ _ _ _ _ _ _ _ _ (by omega) hm _ _).mono ?_; rintro e w6 ⟨rfl, m6, hw⟩; subst w6)
    | (go_at_call 14; refine (fields_new _ _ _ _ _ _ _ _ _ _ _ _ _ _).mono ?_; rintro e w7 ⟨rfl, m7, hw⟩; subst w7)
    | (go_at_call 15; refine (same_any _ _ _ hk _).mono ?_; rintro e w8 ⟨rfl, m8, hw⟩; subst w8)
    | fail)
  go_ret
  exact ⟨rfl, below_drewN ((HQ.out w1 hb).alloc (HQ.out w1 hb).size _) _⟩

end Go.Proofs.Qxb6605719a.Settle
