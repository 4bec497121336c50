import Derived.Test.Qxb6606023aDots
namespace Go.Proofs.Qxb6606023a.LastDot
open Go.RowKit Go.Proofs.Qxb6606023a.Dots

theorem hid {p : Prop} (h : p) : Hid p := h

theorem walk_small (a b : ByteArray) (w : World) (h : a.size + b.size ≤ 1048576) :
    Calls Try.prog 6 #[.string a, .string b] w fun e w' => e = .returned (.bool true) ∧ w' = w := by
  go_enter Try.func6, Try.ntmps6
  go_wp2_with (go_at_call 16; refine (zz_small _ _ _ h).mono ?_; rintro e w' ⟨rfl, hw⟩; subst w')
  go_loop [5] (fun i => ∃ k : Nat, k ≤ b.size ∧ i = .int .i64 k ∧ ∀ j (hj : j < b.size), j < k → b[j] ≠ 46) (fun i => b.size - (intOf i).toNat)
  case atStart => exact ⟨0, Nat.zero_le _, rfl, fun j hj h0 => by omega⟩
  case round =>
    obtain ⟨k, hk, rfl, hno⟩ := hrel
    by_cases hlt : k < b.size
    · by_cases hd : b[k] = 46
      · have hne := byte_eq hd
        clear hno hd
        go_wp2
        go_ret
        exact ⟨rfl, rfl⟩
      · have hne := byte_ne hd
        have HN : Hid (∀ j (hj : j < b.size), j < k + 1 → b[j] ≠ 46) := by
          intro j hj hjk
          by_cases e : j = k
          · subst e; exact hd
          · exact hno j hj (by omega)
        clear hno hd
        go_wp2
        go_round
        case rel => exact ⟨k + 1, by omega, by go_num, HN.out⟩
        case measure => simp [intOf]; omega
    · have HN : Hid (∀ j (hj : j < b.size), b[j] ≠ 46) := fun j hj => hno j hj (by omega)
      clear hno
      by_cases ha : a.size = 0
      · have ea : a = ByteArray.empty := by
          apply ByteArray.ext
          apply Array.eq_empty_of_size_eq_zero
          exact ha
        subst ea
        go_wp2_with (first
          | (go_at_call 17; refine (member_empty _ _).mono ?_; rintro e w' ⟨rfl, hw⟩; subst w')
          | (go_at_call 18; refine (lastDot_none _ _ (by omega) HN.out).mono ?_; rintro e w' ⟨rfl, hw⟩; subst w')
          | fail)
        go_ret
        exact ⟨rfl, rfl⟩
      · have hne := nonempty_toList ha
        have hz := joined_size a b
        have M := hid (member_some a b w ha (by omega))
        have hm : a.size < (a ++ ⟨#[46]⟩ ++ b).size := by omega
        have D1 := hid (joined_at a b hm)
        have D2 := hid (joined_behind a b HN.out)
        have r1 := joined_left a b
        have r2 := joined_right a b
        generalize a ++ ⟨#[46]⟩ ++ b = r at hz M hm D1 D2 r1 r2
        have hz2 : r.size ≤ 9000000 := by omega
        have hz3 : a.size + 1 ≤ r.size := by omega
        clear hz HN
        go_wp2_with (first
          | (go_at_call 17; refine (Hid.out M).mono ?_; rintro e w' ⟨rfl, hw⟩; subst w')
          | (go_at_call 18; refine (lastDot_some _ a.size _ hz2 hm D1.out D2.out).mono ?_; rintro e w' ⟨rfl, hw⟩; subst w')
          | fail)
        go_ret
        exact ⟨rfl, rfl⟩

theorem walk_big (a b : ByteArray) (w : World) (h0 : a.size ≤ maxLen) (h1 : b.size ≤ maxLen) (h : 1048576 < a.size + b.size) :
    Calls Try.prog 6 #[.string a, .string b] w fun e w' => e = .returned (.bool true) ∧ w' = w := by
  unfold maxLen at h0 h1
  by_cases ha : a.size ≤ 1048576
  · by_cases hb : b.size ≤ 1048576
    · go_enter Try.func6, Try.ntmps6
      go_wp2_with (go_at_call 16; refine (zz_any _ _ _).mono ?_; rintro e w' ⟨⟨x, rfl⟩, hw⟩; subst w'; cases x)
      all_goals (go_ret; exact ⟨rfl, rfl⟩)
    · go_enter Try.func6, Try.ntmps6
      go_wp2_with (go_at_call 16; refine (zz_any _ _ _).mono ?_; rintro e w' ⟨⟨x, rfl⟩, hw⟩; subst w'; cases x)
      all_goals (go_ret; exact ⟨rfl, rfl⟩)
  · go_enter Try.func6, Try.ntmps6
    go_wp2_with (go_at_call 16; refine (zz_any _ _ _).mono ?_; rintro e w' ⟨⟨x, rfl⟩, hw⟩; subst w'; cases x)
    all_goals (go_ret; exact ⟨rfl, rfl⟩)

theorem walk (a b : ByteArray) (w : World) (h0 : a.size ≤ maxLen) (h1 : b.size ≤ maxLen) :
    Calls Try.prog 6 #[.string a, .string b] w fun e w' => e = .returned (.bool true) ∧ w' = w := by
  by_cases h : a.size + b.size ≤ 1048576
  · exact walk_small a b w h
  · exact walk_big a b w h0 h1 (by omega)

end Go.Proofs.Qxb6606023a.LastDot
