import Derived.Test.Qxb6606023aStrs
namespace Go.Proofs.Qxb6606023a.Split
open Go.RowKit Go.Proofs.Qxb6606023a.Dots Go.Proofs.Qxb6606023a.Plain Go.Proofs.Qxb6606023a.Strs

theorem split_none (w : World) : Calls Try.prog 20 #[.string ByteArray.empty] w fun e w' => e = .returned (.slice none 0 0) ∧ w' = w := by
  go_enter Try.func20, Try.ntmps20
  go_wp2
  go_ret
  exact ⟨rfl, rfl⟩

theorem one_new (W : World) (v : Value) : ∀ (j : Nat) u, [v][j]? = some u → (W.alloc (.cells #[v] 9)).cell? ((⟨W.heap.size, 0, none⟩ : Addr).add j) = some u := by
  intro j u hj
  match j, hj with
  | 0, hj => simp at hj; subst hj; simp [Addr.add]
  | n + 1, hj => simp at hj

/-- Behind an append of one string: what is owned, and old memory. -/
theorem own_step {w wr w1 : World} {v v' : Value} {j : Nat} {ss : List ByteArray} (hj : j < ss.length) (hb : Below w.heap.size w wr) (hown : wr.ownsRow w.heap.size 9 1 v j ((ss.take j).map Value.string)) (o : Obj)
    (hown' : w1.ownsRow w.heap.size 9 1 v' (j + 1) ((ss.take j).map Value.string ++ [.string (nm ss j)])) (hgr : (wr.alloc o).grownBy w1 v.ownBlock) :
    w1.ownsRow w.heap.size 9 1 v' (j + 1) ((ss.take (j + 1)).map Value.string) ∧ Below w.heap.size w w1 := by
  refine ⟨by rw [nm_take ss j hj, List.map_append]; exact hown', (hb.alloc hb.size o).grown hgr (by have := hb.size; simp; omega) (fun k hk => (hown.lt k hk).1)⟩

theorem own_form {w : World} {base n : Nat} {v : Value} {xs : List Value} (h : w.ownsRow base 9 1 v (n + 1) xs) : ∃ g cap, v = .slice (some ⟨g, 0, none⟩) (n + 1) cap := by
  rcases h.2 with ⟨_, h0⟩ | ⟨g, cap, cur, hv, _⟩
  · omega
  · exact ⟨g, cap, hv⟩

set_option maxHeartbeats 1000000 in
theorem split_some (ss : List ByteArray) (hg : Plain.Good ss) (hn : 1 ≤ ss.length) (hn2 : ss.length ≤ 4096) (s : ByteArray) (es : joined ss ss.length = s) (hsz : s.size ≤ 9000000) (w : World) :
    Calls Try.prog 20 #[.string s] w fun e w' => ∃ g cap, e = .returned (.slice (some ⟨g, 0, none⟩) ss.length cap) ∧ w'.ownsRow w.heap.size 9 1 (.slice (some ⟨g, 0, none⟩) ss.length cap) ss.length (ss.map Value.string) ∧ Below w.heap.size w w' := by
  obtain ⟨i9, hi, hz0, hz1, hz2⟩ := info_parts info9
  have HG : Hid (Plain.Good ss) := hg
  have ES : Hid (joined ss ss.length = s) := es
  have hpos : s.size ≠ 0 := by
    have := off_le hg (j := 0) hn
    have h0 := (hg 0 hn).1
    rw [es] at this
    omega
  have hne := nonempty_toList hpos
  clear hg es
  go_enter Try.func20, Try.ntmps20
  go_wp2
  go_loopw [3, 4, 5] (fun v st i wr => ∃ j k : Nat, j < ss.length ∧ off ss j ≤ k ∧ k ≤ off ss j + (nm ss j).size ∧ k ≤ s.size ∧ i = .int .i64 k ∧ st = .int .i64 (off ss j) ∧ wr.ownsRow w.heap.size 9 1 v j ((ss.take j).map Value.string) ∧ Below w.heap.size w wr) (fun _ _ i _ => s.size - (intOf i).toNat)
  case atStart => exact ⟨0, 0, hn, Nat.le_refl _, Nat.zero_le _, Nat.zero_le _, rfl, rfl, World.ownsRow_nil _ _ _ _, Below.refl _ _⟩
  case round =>
    obtain ⟨j, k, hj, hk1, hk2, hk3, rfl, rfl, hown, hb⟩ := hrel
    have hbs := hb.size
    by_cases hlt : k < s.size
    · by_cases hin : k < off ss j + (nm ss j).size
      · -- inside name j
        have hbyte : s[k] ≠ 46 := by
          have e := ES.out
          subst e
          have := inside HG.out hj (k - off ss j) (by omega) (by omega)
          simpa [show off ss j + (k - off ss j) = k by omega] using this
        have hc := byte_ne hbyte
        have HO := hid hown
        have HB := hid hb
        clear hbyte hown hb
        go_wp2
        go_roundw
        case rel => exact ⟨j, k + 1, hj, by omega, by omega, by omega, by go_num, rfl, HO.out, HB.out⟩
        case measure => simp [intOf]; omega
      · -- the dot behind name j
        have hn1 : j + 1 < ss.length := by
          by_cases h : j + 1 = ss.length
          · have e := off_end HG.out hj h
            rw [ES.out] at e
            omega
          · omega
        obtain rfl : k = off ss j + (nm ss j).size := by omega
        have hbyte : s[off ss j + (nm ss j).size] = 46 := by
          have e := ES.out
          subst e
          exact between HG.out hj hn1 hlt
        have hc := byte_eq hbyte
        have hp : s.extract (off ss j) (off ss j + (nm ss j).size) = nm ss j := by rw [← ES.out]; exact piece HG.out hj
        have HO := hid hown
        have HB := hid hb
        have HJ : Hid (off ss (j + 1) = off ss j + (nm ss j).size + 1) := rfl
        clear hbyte hown hb hin hk2
        go_wp2_with (at_builtin; refine wpList_append_own _ rfl (.tmp 18) (.tmp 23) 26 rfl w.heap.size 9 i9 (.string ByteArray.empty) 1 16 Try.underlying26 hi hz0 hz1 hz2 rfl (by decide) _ _ _ rfl (HO.out.alloc _) ⟨wr.heap.size, 0, none⟩ 1 1 [.string (nm ss j)] rfl rfl (one_new _ _) (by intro u hu; rw [List.mem_singleton.1 hu]; rfl) (by unfold maxLen; omega) (by omega) (by simp; omega) ?_; intro v' w1 own1 gr1 _)
        have st := own_step hj HB.out HO.out _ own1 gr1
        have hle : off ss (j + 1) + (nm ss (j + 1)).size ≤ s.size := by rw [← ES.out]; exact off_le HG.out hn1
        have HS := HJ.out
        go_roundw
        case rel => exact ⟨j + 1, off ss (j + 1), hn1, Nat.le_refl _, by omega, by omega, by rw [HS]; go_num, by rw [HS]; go_num, st.1, st.2⟩
        case measure => simp [intOf]; omega
    · -- the end
      have hn1 : j + 1 = ss.length := by
        by_cases h : j + 1 < ss.length
        · have e := off_more HG.out h
          rw [ES.out] at e
          omega
        · omega
      have hse : s.size = off ss j + (nm ss j).size := by
        have e := off_end HG.out hj hn1
        rw [ES.out] at e
        exact e
      have hp : s.extract (off ss j) s.size = nm ss j := by
        have e := piece HG.out hj
        rw [ES.out, ← hse] at e
        exact e
      have hol : off ss j ≤ s.size := by omega
      have HO := hid hown
      have HB := hid hb
      have HN := hid hn1
      clear hown hb hse hn1 hk2
      go_wp2_with (at_builtin; refine wpList_append_own _ rfl (.tmp 27) (.tmp 31) 26 rfl w.heap.size 9 i9 (.string ByteArray.empty) 1 16 Try.underlying26 hi hz0 hz1 hz2 rfl (by decide) _ _ _ rfl (HO.out.alloc _) ⟨wr.heap.size, 0, none⟩ 1 1 [.string (nm ss j)] rfl rfl (one_new _ _) (by intro u hu; rw [List.mem_singleton.1 hu]; rfl) (by unfold maxLen; omega) (by omega) (by simp; omega) ?_; intro v' w1 own1 gr1 _)
      have st := own_step hj HB.out HO.out _ own1 gr1
      have e := HN.out
      rw [e] at st
      obtain ⟨g, cap, rfl⟩ := own_form own1
      go_ret
      refine ⟨g, cap, ?_, ?_, st.2⟩
      · rw [← e]; rfl
      · rw [← e] at st ⊢
        have := st.1
        rw [e, List.take_length] at this
        rw [e]
        exact this

end Go.Proofs.Qxb6606023a.Split
