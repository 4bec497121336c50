import Derived.Test.Qxb6605719aSettle
namespace Go.Proofs.Qxb6605719a.Settle2
open Go.RowKit Go.Proofs.Qxb6605719a.Base Go.Proofs.Qxb6605719a.Exif Go.Proofs.Qxb6605719a.Clone Go.Proofs.Qxb6605719a.Settle

theorem quiet_add (W : World) (a b c : Nat) : ∃ n, (W.drewN (a + b)).drewN c = W.drewN (a + n) := ⟨b + c, by rw [World.drewN_drewN, Nat.add_assoc]⟩

set_option maxRecDepth 100000 in
set_option maxHeartbeats 1600000 in
theorem main_exif (ad : Addr) (n0 c0 : Nat) (zs : List Int) (st ln lf : Int) (s : Nat) (ex fr : Bool) (eb ee : Int) (w : World) (hs : Src w (some ad) n0 c0 zs) (g0 : n0 ≤ 1048576) (g1 : 0 ≤ st) (g2 : st ≤ 6) (g3 : 0 ≤ ln) (g4 : ln ≤ 65536) (g5 : 0 ≤ lf) (g6 : lf ≤ 65536) (g9 : 0 ≤ eb) (g10 : eb ≤ n0) (g11 : 0 ≤ ee) (g12 : ee ≤ n0) (h4 : s + 4 ≤ n0) :
    Calls Try.prog 4 #[.slice (some ad) n0 c0, .int .i64 st, .int .u8 225, .int .i64 ln, .int .i64 lf, .int .i64 (s : Int), .bool ex, .bool fr, .int .i64 eb, .int .i64 ee] w fun e w' => e = .returned (.bool true) ∧ Below w.heap.size w w' := by
  have hk : Kept (some ⟨w.heap.size, 0, none⟩) n0 n0 := .inr ⟨_, _, rfl⟩
  go_enter Try.func4, Try.ntmps4
  go_wp2_with (first
    | (go_at_call 10; refine (zz_small _ _ _ _ _ _ _ _ _ _ _ _ _ (by omega)).mono ?_; rintro e w' ⟨rfl, hw⟩; subst w')
    | (go_at_call 11; refine (clone_some _ _ _ zs _ (by omega) hs).mono ?_; rintro e w1 ⟨rfl, hown, hb⟩)
    | (go_at_call 12; refine (new_any _ _ _ _ _ _ _ _ _ _ _ _ _).mono ?_; rintro e w5 ⟨rfl, hw⟩; subst w5)
    | (go_at_call 13; refine (end_exif0 _ _ _ _ _ _ _ _ _ _ _ (by omega) (by omega) _).mono ?_; rintro e w6 ⟨rfl, m6, hw⟩; subst w6)
    | (go_at_call 13; refine (end_exif _ _ _ _ _ _ _ _ _ _ _ (by omega) (by omega) _ _).mono ?_; rintro e w6 ⟨rfl, m6, hw⟩; subst w6)
    | (go_at_call 14; refine (fields_new _ _ _ _ _ _ _ _ _ _ _ _ _ _).mono ?_; rintro e w7 ⟨rfl, m7, hw⟩; subst w7)
    | (go_at_call 15; refine (same_any _ _ _ hk _).mono ?_; rintro e w8 ⟨rfl, m8, hw⟩; subst w8)
    | fail)
  have hrow : ∀ o m x, (¬ n0 = s + 4 → x = some ⟨w.heap.size, s + 4, none⟩) → Row ((w1.alloc o).drewN m) x (n0 - (s + 4)) (fun i => (zs.drop (s + 4)).getD i 0) := by
    intro o m x hx
    by_cases he : n0 = s + 4
    · exact .inl (by omega)
    rw [hx he]
    have hl := hs.1
    have h1 : w1.ownsRow w.heap.size 5 1 (.slice (some ⟨w.heap.size, 0, none⟩) n0 n0) n0 ((zs.take (s + 4)).map (Value.int .u8) ++ [] ++ (zs.drop (s + 4)).map (Value.int .u8)) := by
      rw [List.append_nil, ← List.map_append, List.take_append_drop]
      exact hown
    have r1 := own_row (k := s + 4) h1 (by simp; omega)
    rw [show (zs.drop (s + 4)).length = n0 - (s + 4) by simp [hl]] at r1
    exact Row.below r1 (below_drewN ((Below.refl _ _).alloc (Nat.le_refl _) o) m) (Nat.le_refl _)
  have HR : Hid (∀ o m x, (¬ n0 = s + 4 → x = some ⟨w.heap.size, s + 4, none⟩) → Row ((w1.alloc o).drewN m) x (n0 - (s + 4)) (fun i => (zs.drop (s + 4)).getD i 0)) := hrow
  clear hrow hown hs
  have e1 : (0 : Int) ≤ (s : Int) + 4 := by omega
  have e2 : (s : Int) + 4 ≤ (n0 : Int) := by omega
  have e3 : ((n0 : Int) - ((s : Int) + 4) == (n0 : Int) - (s : Int) - 4) = true := by simp; omega
  have e4 : IntKind.i64.wrap ((n0 : Int) - ((s : Int) + 4)) = (n0 : Int) - ((s : Int) + 4) := IntWalk.i64_in _ ⟨by omega, by omega⟩
  have e5 : IntKind.i64.wrap ((n0 : Int) - (s : Int)) = (n0 : Int) - (s : Int) := IntWalk.i64_in _ ⟨by omega, by omega⟩
  have e6 : IntKind.i64.wrap ((n0 : Int) - (s : Int) - 4) = (n0 : Int) - (s : Int) - 4 := IntWalk.i64_in _ ⟨by omega, by omega⟩
  have e7 : IntKind.i64.wrap ((s : Int) + 4) = (s : Int) + 4 := IntWalk.i64_in _ ⟨by omega, by omega⟩
  go_quiet ((go_at_call 16; go_must (refine (bytesEq_any _ _ _ _ _ _ ?_ _ (HR.out _ _ _ (fun h => by simp [h])) (HR.out _ _ _ (fun h => by simp [h]))).mono ?_; omega; rintro e w9 ⟨rfl, k9, rfl⟩; exact ⟨rfl, quiet_add _ _ _ _⟩)))
  clear HR e1 e2 e3 e4 e5 e6 e7
  go_wp2
  all_goals (go_ret; exact ⟨rfl, below_drewN (hb.alloc hb.size _) _⟩)

theorem walk (p0 : Option Addr) (n0 c0 : Nat) (zs : List Int) (st mk ln lf sa : Int) (ex fr : Bool) (eb ee : Int) (w : World) (hs : Src w p0 n0 c0 zs) :
    Calls Try.prog 4 #[.slice p0 n0 c0, .int .i64 st, .int .u8 mk, .int .i64 ln, .int .i64 lf, .int .i64 sa, .bool ex, .bool fr, .int .i64 eb, .int .i64 ee] w fun e w' => e = .returned (.bool true) ∧ Below w.heap.size w w' := by
  by_cases h : n0 ≤ 1048576 ∧ 0 ≤ st ∧ st ≤ 6 ∧ 0 ≤ ln ∧ ln ≤ 65536 ∧ 0 ≤ lf ∧ lf ≤ 65536 ∧ -1 ≤ sa ∧ sa ≤ n0 ∧ 0 ≤ eb ∧ eb ≤ n0 ∧ 0 ≤ ee ∧ ee ≤ n0
  rotate_left
  · refine (Settle.early p0 n0 c0 st mk ln lf sa ex fr eb ee w h).mono ?_
    rintro e w' ⟨rfl, hw⟩
    subst w'
    exact ⟨rfl, Below.refl _ _⟩
  obtain ⟨g0, g1, g2, g3, g4, g5, g6, g7, g8, g9, g10, g11, g12⟩ := h
  by_cases hx : 0 ≤ sa ∧ mk = 225
  · obtain ⟨h0, rfl⟩ := hx
    by_cases h4 : n0 < sa + 4
    · refine (early_short p0 n0 c0 st ln lf sa ex fr eb ee w g0 g1 g2 g3 g4 g5 g6 g7 g8 g9 g10 g11 g12 h0 h4).mono ?_
      rintro e w' ⟨rfl, hw⟩
      subst w'
      exact ⟨rfl, Below.refl _ _⟩
    · obtain ⟨s, rfl⟩ : ∃ s : Nat, sa = (s : Int) := ⟨sa.toNat, by omega⟩
      cases p0 with
      | none => have := (hs.2.1 rfl).1; omega
      | some ad => exact main_exif ad n0 c0 zs st ln lf s ex fr eb ee w hs g0 g1 g2 g3 g4 g5 g6 g9 g10 g11 g12 (by omega)
  · -- nil and not nil in one: the clone's contract
    have key : ∃ (q0 : Option Addr) (d0 : Nat) (Q : World → Prop), (∀ w1, Q w1 → Below w.heap.size w w1) ∧ Hid (Calls Try.prog 11 #[.slice p0 n0 c0] w fun e w' => e = .returned (.slice q0 n0 d0) ∧ Q w') ∧ Kept q0 n0 d0 := by
      cases p0 with
      | none =>
        obtain ⟨rfl, rfl⟩ := hs.2.1 rfl
        refine ⟨none, 0, fun w' => w' = w, fun w1 h1 => by subst h1; exact Below.refl _ _, clone_nil w, .inl ⟨rfl, rfl, rfl⟩⟩
      | some ad =>
        refine ⟨some ⟨w.heap.size, 0, none⟩, n0, fun w' => w'.ownsRow w.heap.size 5 1 (.slice (some ⟨w.heap.size, 0, none⟩) n0 n0) n0 (zs.map (Value.int .u8)) ∧ Below w.heap.size w w', fun w1 h1 => h1.2, clone_some ad n0 c0 zs w g0 hs, .inr ⟨_, _, rfl⟩⟩
    obtain ⟨q0, d0, Q, hQ, hcl, hk⟩ := key
    by_cases h0 : sa < 0
    · exact main_neg p0 n0 c0 st mk ln lf sa ex fr eb ee w q0 d0 Q hQ hcl hk g0 g1 g2 g3 g4 g5 g6 g7 g8 g9 g10 g11 g12 h0
    · exact main_frame p0 n0 c0 st mk ln lf sa ex fr eb ee w q0 d0 Q hQ hcl hk g0 g1 g2 g3 g4 g5 g6 g7 g8 g9 g10 g11 g12 (by omega) (by simp; omega)

end Go.Proofs.Qxb6605719a.Settle2
