import Derived.Test.Qxb6606023aSplit
namespace Go.Proofs.Qxb6606023a.Fold
open Go.RowKit Go.Proofs.Qxb6606023a.Dots Go.Proofs.Qxb6606023a.Plain Go.Proofs.Qxb6606023a.Strs Go.Proofs.Qxb6606023a.Split

def NoDot (s : ByteArray) : Prop := ∀ i (hi : i < s.size), s[i] ≠ 46

theorem last_of (s : ByteArray) (n : Nat) (hn : n ≤ s.size) (h : ∀ i (hi : i < s.size), n ≤ i → s[i] ≠ 46) : NoDot s ∨ ∃ m, ∃ hm : m < s.size, s[m] = 46 ∧ ∀ i (hi : i < s.size), m < i → s[i] ≠ 46 := by
  induction n with
  | zero => exact .inl fun i hi => h i hi (Nat.zero_le _)
  | succ n ih =>
    by_cases hd : s[n] = 46
    · exact .inr ⟨n, hn, hd, fun i hi hni => h i hi hni⟩
    · refine ih (by omega) fun i hi hni => ?_
      by_cases e : i = n
      · subst e; exact hd
      · exact h i hi (by omega)

/-- lastDot at any string: a negative answer says that there is no dot. -/
theorem lastDot_any (s : ByteArray) (w : World) (hs : s.size ≤ 9000000) : Calls Try.prog 18 #[.string s] w fun e w' => (∃ z : Int, e = .returned (.int .i64 z) ∧ (z < 0 → NoDot s)) ∧ w' = w := by
  rcases last_of s s.size (Nat.le_refl _) (fun i hi h => by omega) with h | ⟨m, hm, hd, h⟩
  · exact (lastDot_none s w hs h).mono fun e w' ⟨h1, h2⟩ => ⟨⟨_, h1, fun _ => h⟩, h2⟩
  · exact (lastDot_some s m w hs hm hd h).mono fun e w' ⟨h1, h2⟩ => ⟨⟨_, h1, fun h => by omega⟩, h2⟩

theorem empty_of {s : ByteArray} (h : s.size = 0) : s = ByteArray.empty := by
  apply ByteArray.ext
  apply Array.eq_empty_of_size_eq_zero
  exact h

theorem member_any (ss : List ByteArray) (k : Nat) (w : World) (h : (joined ss k).size + (nm ss k).size ≤ 9000000) :
    Calls Try.prog 17 #[.string (joined ss k), .string (nm ss k)] w fun e w' => e = .returned (.string (joined ss (k + 1))) ∧ w' = w := by
  by_cases h0 : (joined ss k).size = 0
  · rw [joined, if_pos h0, empty_of h0]
    exact member_empty _ w
  · rw [joined, if_neg h0]
    exact member_some _ _ w h0 h

/-- A row of strings. -/
def StrRow (w : World) (a : Option Addr) (n : Nat) (ss : List ByteArray) : Prop := n = 0 ∨ ∃ b o, a = some ⟨b, o, none⟩ ∧ ∀ j, j < n → w.cell? ⟨b, o + j, none⟩ = some (.string (nm ss j))

theorem StrRow.below {w w' : World} {a : Option Addr} {n : Nat} {ss : List ByteArray} (h : StrRow w a n ss) {B : Nat} (hb : Below B w w') (hB : w.heap.size ≤ B) : StrRow w' a n ss := by
  rcases h with h | ⟨b, o, ha, h⟩
  · exact .inl h
  · refine .inr ⟨b, o, ha, fun i hi => ?_⟩
    have h1 := h i hi
    rw [hb.cell (by have := World.block_lt_of_cell? w _ h1; omega)]
    exact h1

theorem own_strs {w : World} {base g cap : Nat} {ss : List ByteArray} (h : w.ownsRow base 9 1 (.slice (some ⟨g, 0, none⟩) ss.length cap) ss.length (ss.map Value.string)) : StrRow w (some ⟨g, 0, none⟩) ss.length ss := by
  refine .inr ⟨g, 0, rfl, fun i hi => ?_⟩
  rw [Nat.zero_add, h.cellAt i (by omega)]
  simp [nm, List.getD, hi]

theorem split_any (ss : List ByteArray) (hg : Plain.Good ss) (hn2 : ss.length ≤ 4096) (hsz : (joined ss ss.length).size ≤ 9000000) (w : World) :
    Calls Try.prog 20 #[.string (joined ss ss.length)] w fun e w' => ∃ q d, e = .returned (.slice q ss.length d) ∧ StrRow w' q ss.length ss ∧ Below w.heap.size w w' := by
  by_cases h0 : ss.length = 0
  · have e0 : joined ss ss.length = ByteArray.empty := by rw [h0, joined]
    rw [e0, h0]
    exact (split_none w).mono fun e w' ⟨h1, h2⟩ => ⟨none, 0, h1, .inl rfl, by rw [h2]; exact Below.refl _ _⟩
  · exact (split_some ss hg (by omega) hn2 _ rfl hsz w).mono fun e w' ⟨g, cap, h1, h2, h3⟩ => ⟨_, _, h1, own_strs h2, h3⟩

theorem total_nm (ss : List ByteArray) (k j : Nat) (h : j < k) : (nm ss j).size ≤ total ss k := by
  induction k with
  | zero => omega
  | succ k ih =>
    rw [total]
    by_cases e : j = k
    · subst e; omega
    · have := ih (by omega); omega

theorem total_mono (ss : List ByteArray) (k n : Nat) (h : k ≤ n) : total ss k ≤ total ss n := by
  induction n with
  | zero => rw [show k = 0 by omega]; exact Nat.le_refl _
  | succ n ih =>
    by_cases e : k = n + 1
    · rw [e]; exact Nat.le_refl _
    · have := ih (by omega); rw [total]; omega

/-- The clone's contract, nil and not nil in one. -/
theorem clone_any (a : Option Addr) (n c : Nat) (ss : List ByteArray) (w : World) (hn : n ≤ 4096) (hs : Names w a n c ss) :
    ∃ (q : Option Addr) (d : Nat), Calls Try.prog 11 #[.slice a n c] w fun e w' => e = .returned (.slice q n d) ∧ StrRow w' q n ss ∧ Below w.heap.size w w' := by
  cases a with
  | none =>
    obtain ⟨rfl, rfl⟩ := hs.2.1 rfl
    exact ⟨none, 0, (clone_nil w).mono fun e w' ⟨h1, h2⟩ => ⟨h1, .inl rfl, by rw [h2]; exact Below.refl _ _⟩⟩
  | some ad =>
    have hl := hs.1
    refine ⟨some ⟨w.heap.size, 0, none⟩, n, (clone_some ad n c ss w hn hs).mono fun e w' ⟨h1, h2, h3⟩ => ⟨h1, ?_, h3⟩⟩
    subst hl
    exact own_strs h2

set_option maxHeartbeats 2000000 in
theorem fold_main (a : Option Addr) (n c : Nat) (ss : List ByteArray) (w : World) (hn : n ≤ 4096) (hs : Names w a n c ss) :
    Calls Try.prog 7 #[.slice a n c] w fun e w' => e = .returned (.bool true) ∧ Below w.heap.size w w' := by
  obtain ⟨q, d, hcl0⟩ := clone_any a n c ss w hn hs
  have hcl := hid hcl0
  have hzz := hid (zz_any a n c ss w (by omega) hs)
  obtain ⟨hl, _, hsz, hr⟩ := hs
  have HS : Hid (∀ j, j < n → (nm ss j).size ≤ 9223372036854775807) := hsz
  have HR : Hid (StrRow w a n ss) := hr
  have HL : Hid (ss.length = n) := hl
  clear hcl0 hsz hr hl
  go_enter Try.func7, Try.ntmps7
  go_wp2_with (go_at_call 19; refine hzz.out.mono ?_; rintro e w' ⟨⟨b, rfl⟩, hw⟩; subst w'; cases b)
  · go_ret
    exact ⟨rfl, Below.refl _ _⟩
  clear hzz
  go_loop [3, 4] (fun t i => ∃ k : Nat, k ≤ n ∧ i = .int .i64 k ∧ t = .int .i64 (total ss k) ∧ total ss k ≤ 65536) (fun _ i => n - (intOf i).toNat)
  case atStart => exact ⟨0, Nat.zero_le _, rfl, rfl, Nat.zero_le _⟩
  case round =>
    obtain ⟨k, hk, rfl, rfl, ht⟩ := hrel
    by_cases hlt : k < n
    · rcases HR.out with h | ⟨b, o, rfl, hc⟩
      · omega
      have g := hc k hlt
      have gs := HS.out k hlt
      have HT : Hid (total ss (k + 1) = total ss k + (nm ss k).size) := rfl
      clear hc
      generalize nm ss k = s at g gs HT
      generalize total ss k = tk at ht HT
      go_wp2
      · go_ret
        exact ⟨rfl, Below.refl _ _⟩
      · go_ret
        exact ⟨rfl, Below.refl _ _⟩
      · go_round
        case rel => exact ⟨k + 1, by omega, by go_num, by rw [HT.out]; go_num, by rw [HT.out]; omega⟩
        case measure => simp [intOf]; omega
    · obtain rfl : k = n := by omega
      have HTT := hid ht
      clear ht
      go_wp2
      go_loop [5] (fun i => ∃ m : Nat, m ≤ k ∧ i = .int .i64 m ∧ ∀ j, j < m → (nm ss j).size ≠ 0 ∧ NoDot (nm ss j)) (fun i => k - (intOf i).toNat)
      case atStart => exact ⟨0, Nat.zero_le _, rfl, fun j hj => absurd hj (Nat.not_lt_zero _)⟩
      case round =>
        obtain ⟨m, hm, rfl, hok⟩ := hrel
        have HK := hid hok
        clear hok
        by_cases hlt2 : m < k
        · rcases HR.out with h | ⟨b, o, rfl, hc⟩
          · omega
          have g := hc m hlt2
          have gt := total_nm ss k m hlt2
          have gt2 := HTT.out
          clear hc
          by_cases h0 : (nm ss m).size = 0
          · have hemp := empty_of h0
            rw [hemp] at g
            go_wp2_with fail
            all_goals (go_ret; exact ⟨rfl, Below.refl _ _⟩)
          · have hne := nonempty_toList h0
            have gz : (nm ss m).size ≤ 9000000 := by omega
            have HM : Hid (NoDot (nm ss m) → ∀ j, j < m + 1 → (nm ss j).size ≠ 0 ∧ NoDot (nm ss j)) := by
              intro hd j hj
              by_cases e : j = m
              · subst e; exact ⟨h0, hd⟩
              · exact HK.out j (by omega)
            clear gt gt2 h0
            generalize nm ss m = s at g hne gz HM
            go_wp2_with (go_at_call 18; refine (lastDot_any _ _ gz).mono ?_; rintro e w' ⟨⟨z, rfl, hz⟩, hw⟩; subst w')
            · go_ret
              exact ⟨rfl, Below.refl _ _⟩
            · have hd : NoDot s := hz (by omega)
              go_round
              case rel => exact ⟨m + 1, by omega, by go_num, HM.out hd⟩
              case measure => simp [intOf]; omega
        · obtain rfl : m = k := by omega
          have hgood : Hid (Plain.Good ss) := fun j hj => HK.out j (by have := HL.out; omega)
          clear HK HS HR
          have hjs : ∀ i, i ≤ m → (joined ss i).size + (nm ss i).size ≤ 9000000 ∨ i = m := by
            intro i hi
            by_cases e : i = m
            · exact .inr e
            · have h1 := joined_le ss i
              have h2 := total_mono ss i m hi
              have h3 := total_nm ss m i (by omega)
              have h4 := HTT.out
              exact .inl (by omega)
          have HJ := hid hjs
          have hjm : (joined ss m).size ≤ 9000000 := by
            have h1 := joined_le ss m
            have h4 := HTT.out
            omega
          clear hjs HTT
          go_wp2_with (go_at_call 11; refine hcl.out.mono ?_; rintro e w1 ⟨rfl, hrow, hb1⟩)
          have HRW := hid hrow
          clear hrow hcl
          go_loop [6, 7] (fun p i => ∃ i' : Nat, i' ≤ m ∧ i = .int .i64 i' ∧ p = .string (joined ss i')) (fun _ i => m - (intOf i).toNat)
          case atStart => exact ⟨0, Nat.zero_le _, rfl, rfl⟩
          case round =>
            obtain ⟨k3, hk3, rfl, rfl⟩ := hrel
            by_cases hlt3 : k3 < m
            · rcases HRW.out with h | ⟨b, o, rfl, hc⟩
              · omega
              have g := hc k3 hlt3
              have hme : (joined ss k3).size + (nm ss k3).size ≤ 9000000 := by
                rcases HJ.out k3 (by omega) with h | h
                · exact h
                · omega
              have HM := hid (member_any ss k3 w1 hme)
              clear hc hme
              go_wp2_with (go_at_call 17; refine HM.out.mono ?_; rintro e w' ⟨rfl, hw⟩; subst w')
              go_round
              case rel => exact ⟨k3 + 1, by omega, by go_num, rfl⟩
              case measure => simp [intOf]; omega
            · obtain rfl : k3 = m := by omega
              have hl := HL.out
              subst hl
              have HSP := hid (split_any ss hgood.out hn hjm w1)
              clear hgood HJ hjm HL
              go_wp2_with (go_at_call 20; refine HSP.out.mono ?_; rintro e w2 ⟨q2, d2, rfl, hrow2, hb2⟩)
              have hrow1 : StrRow w2 q ss.length ss := StrRow.below HRW.out hb2 (Nat.le_refl _)
              have HR1 := hid hrow1
              have HR2 := hid hrow2
              have hbb : Below w.heap.size w w2 := hb1.trans (hb2.mono hb1.size)
              clear hrow1 hrow2 HSP HRW hb1 hb2
              go_loopw [9] (fun i wr => ∃ i' nq : Nat, i' ≤ ss.length ∧ i = .int .i64 i' ∧ wr = w2.drewN nq) (fun i _ => ss.length - (intOf i).toNat)
              case atStart => exact ⟨0, 0, Nat.zero_le _, rfl, rfl⟩
              case round =>
                obtain ⟨k4, nq, hk4, rfl, rfl⟩ := hrel
                by_cases hlt4 : k4 < ss.length
                · rcases HR1.out with h | ⟨b1, o1, rfl, hc1⟩
                  · omega
                  rcases HR2.out with h | ⟨b2, o2, rfl, hc2⟩
                  · omega
                  have g1 := hc1 k4 hlt4
                  have g2 := hc2 k4 hlt4
                  have i0 : (0 : Int) ≤ (k4 : Int) := by omega
                  have i1 : (k4 : Int) < (ss.length : Int) := by omega
                  clear hc1 hc2
                  generalize nm ss k4 = s at g1 g2
                  go_wp2
                  go_quiet (fail)
                  go_wp2
                  go_roundw
                  case rel => exact ⟨k4 + 1, _, by omega, by go_num, rfl⟩
                  case measure => simp [intOf]; omega
                · go_wp2
                  go_ret
                  exact ⟨rfl, below_drewN hbb _⟩

theorem fold_big (a : Option Addr) (n c : Nat) (ss : List ByteArray) (w : World) (hn : 4096 < n) (hn2 : n ≤ 9223372036854775807) (hs : Names w a n c ss) :
    Calls Try.prog 7 #[.slice a n c] w fun e w' => e = .returned (.bool true) ∧ Below w.heap.size w w' := by
  have hzz := hid (zz_any a n c ss w hn2 hs)
  clear hs
  go_enter Try.func7, Try.ntmps7
  go_wp2_with (go_at_call 19; refine hzz.out.mono ?_; rintro e w' ⟨⟨b, rfl⟩, hw⟩; subst w'; cases b)
  all_goals (go_ret; exact ⟨rfl, Below.refl _ _⟩)

theorem walk (a : Option Addr) (n c : Nat) (ss : List ByteArray) (w : World) (hn2 : n ≤ 9223372036854775807) (hs : Names w a n c ss) :
    Calls Try.prog 7 #[.slice a n c] w fun e w' => e = .returned (.bool true) ∧ Below w.heap.size w w' := by
  by_cases hn : n ≤ 4096
  · exact fold_main a n c ss w hn hs
  · exact fold_big a n c ss w (by omega) hn2 hs

end Go.Proofs.Qxb6606023a.Fold
