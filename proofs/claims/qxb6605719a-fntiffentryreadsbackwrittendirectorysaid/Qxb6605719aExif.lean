import Derived.Test.Qxb6605719aBase
import Derived.Laws.OwnMore
import Derived.WalkSmall
namespace Go.Proofs.Qxb6605719a.Exif
open Go.RowKit Go.Proofs.Qxb6605719a.Base

theorem info5 : (Try.prog.info? 5).map (fun i => (i.zero, i.size, i.bytes)) = some (some (.int .u8 0), 1, 1) := by kernel_rfl

/-- The lengths are out of bounds: true at once. -/
theorem big0 (a0 : Option Addr) (n0 c0 : Nat) (a1 : Int) (a2 : Option Addr) (n2 c2 : Nat) (a3 : Bool) (w : World) (h : 65536 < n0) :
    Calls Try.prog 5 #[.slice a0 n0 c0, .int .u8 a1, .slice a2 n2 c2, .bool a3] w fun e w' => e = .returned (.bool true) ∧ w' = w := by
  go_enter Try.func5, Try.ntmps5
  go_wp2_with (go_at_call 17; refine (zz_any _ _ _ _ _ _ _ _ _).mono ?_; rintro e w' ⟨⟨b, rfl⟩, rfl⟩; cases b)
  all_goals (go_ret; exact ⟨rfl, rfl⟩)

theorem big2 (a0 : Option Addr) (n0 c0 : Nat) (a1 : Int) (a2 : Option Addr) (n2 c2 : Nat) (a3 : Bool) (w : World) (h0 : n0 ≤ 65536) (h : 65533 < n2) :
    Calls Try.prog 5 #[.slice a0 n0 c0, .int .u8 a1, .slice a2 n2 c2, .bool a3] w fun e w' => e = .returned (.bool true) ∧ w' = w := by
  go_enter Try.func5, Try.ntmps5
  go_wp2_with (go_at_call 17; refine (zz_any _ _ _ _ _ _ _ _ _).mono ?_; rintro e w' ⟨⟨b, rfl⟩, rfl⟩; cases b)
  all_goals (go_ret; exact ⟨rfl, rfl⟩)

/-- What is appended of a slice that came in. -/
def Src (w : World) (a : Option Addr) (n c : Nat) (zs : List Int) : Prop :=
  zs.length = n ∧ (a = none → n = 0 ∧ c = 0) ∧ ∀ ad, a = some ad → ∀ (j : Nat) u, (zs.map (Value.int .u8))[j]? = some u → w.cell? (ad.add j) = some u

theorem Src.below {w w' : World} {a : Option Addr} {n c : Nat} {zs : List Int} (h : Src w a n c zs) {B : Nat} (hb : Below B w w') (hB : w.heap.size ≤ B) : Src w' a n c zs := by
  refine ⟨h.1, h.2.1, fun ad had j u hu => ?_⟩
  have h1 := h.2.2 ad had j u hu
  rw [hb.cell (by have := World.block_lt_of_cell? w _ h1; omega)]
  exact h1

theorem cells4 (W : World) (v0 v1 v2 v3 : Value) : ∀ (j : Nat) u, [v0, v1, v2, v3][j]? = some u → (W.alloc (.cells #[v0, v1, v2, v3] 5)).cell? ((⟨W.heap.size, 0, none⟩ : Addr).add j) = some u := by
  intro j u hj
  match j, hj with
  | 0, hj => simp at hj; subst hj; simp [Addr.add]
  | 1, hj => simp at hj; subst hj; simp [Addr.add]
  | 2, hj => simp at hj; subst hj; simp [Addr.add]
  | 3, hj => simp at hj; subst hj; simp [Addr.add]
  | n + 4, hj => simp at hj

theorem Row.below {w w' : World} {a : Option Addr} {n : Nat} {f : Nat → Int} (h : Row w a n f) {B : Nat} (hb : Below B w w') (hB : w.heap.size ≤ B) : Row w' a n f := by
  rcases h with h | ⟨b, o, ha, h⟩
  · exact .inl h
  · refine .inr ⟨b, o, ha, fun i hi => ?_⟩
    have h1 := h i hi
    rw [hb.cell (by have := World.block_lt_of_cell? w _ h1; omega)]
    exact h1

theorem Src.row {w : World} {a : Option Addr} {n c : Nat} {zs : List Int} (h : Src w a n c zs) : Row w a n (fun i => zs.getD i 0) := by
  obtain ⟨hl, hnone, hc⟩ := h
  by_cases hn : n = 0
  · exact .inl hn
  cases a with
  | none => exact absurd (hnone rfl).1 hn
  | some ad =>
    have hc := hc ad rfl
    have key : ∀ i, i < n → w.cell? (ad.add i) = some (.int .u8 (zs.getD i 0)) := by
      intro i hi
      refine hc i _ ?_
      simp [List.getD, show i < zs.length by omega]
    obtain ⟨b, o, sp⟩ := ad
    have hsp : sp = none := by simpa [Addr.add] using World.cell?_spot (key 0 (by omega))
    subst hsp
    refine .inr ⟨b, o, rfl, fun i hi => ?_⟩
    have := key i hi
    rw [Addr.add_lit] at this
    exact this

theorem own_row {w : World} {base B N k : Nat} {xs ys : List Value} {z : List Int} (h : w.ownsRow base 5 1 (.slice (some ⟨B, 0, none⟩) N N) N (xs ++ ys ++ z.map (Value.int .u8))) (hk : xs.length + ys.length = k) :
    Row w (some ⟨B, k, none⟩) z.length (fun i => z.getD i 0) := by
  refine .inr ⟨B, k, rfl, fun i hi => ?_⟩
  have hl := h.1
  simp at hl
  rw [h.cellAt (k + i) (by omega)]
  rw [List.getElem?_append_right (by simp; omega)]
  have e : k + i - (xs ++ ys).length = i := by simp; omega
  rw [e]
  simp [List.getD, hi]

theorem end_frame0 (p0 : Option Addr) (n0 c0 : Nat) (v1 v2 v3 v4 v5 : Int) (v6 v7 : Bool) (v8 v9 : Int) (h5 : 0 ≤ v5) (h2 : (v2 == 225) = false) (W : World) :
    Calls Try.prog 13 #[.pointer (some ⟨W.heap.size, 0, none⟩)] (W.alloc (.cells #[.slice p0 n0 c0, .int .i64 v1, .int .u8 v2, .int .i64 v3, .int .i64 v4, .int .i64 v5, .bool v6, .bool v7, .int .i64 v8, .int .i64 v9] 53)) fun e w' =>
      e = .returned (.tuple #[]) ∧ ∃ m, w' = (W.alloc (.cells #[.slice p0 n0 c0, .int .i64 1, .int .u8 v2, .int .i64 v3, .int .i64 v4, .int .i64 v5, .bool v6, .bool true, .int .i64 v8, .int .i64 v9] 53)).drewN m :=
  end_frame p0 n0 c0 v1 v2 v3 v4 v5 v6 v7 v8 v9 h5 h2 W 0

theorem end_exif0 (p0 : Option Addr) (n0 c0 : Nat) (v1 v3 v4 v5 : Int) (v6 v7 : Bool) (v8 v9 : Int) (h5 : 0 ≤ v5) (h5' : v5 ≤ 9000000) (W : World) :
    Calls Try.prog 13 #[.pointer (some ⟨W.heap.size, 0, none⟩)] (W.alloc (.cells #[.slice p0 n0 c0, .int .i64 v1, .int .u8 225, .int .i64 v3, .int .i64 v4, .int .i64 v5, .bool v6, .bool v7, .int .i64 v8, .int .i64 v9] 53)) fun e w' =>
      e = .returned (.tuple #[]) ∧ ∃ m, w' = (W.alloc (.cells #[.slice p0 n0 c0, .int .i64 1, .int .u8 225, .int .i64 v3, .int .i64 v4, .int .i64 v5, .bool true, .bool v7, .int .i64 (v5 + 4), .int .i64 n0] 53)).drewN m :=
  end_exif p0 n0 c0 v1 v3 v4 v5 v6 v7 v8 v9 h5 h5' W 0

theorem fields_new (p0 : Option Addr) (n0 c0 : Nat) (v1 v2 v3 v4 v5 : Int) (v6 v7 : Bool) (v8 v9 : Int) (W : World) (m : Nat) :
    Calls Try.prog 14 #[.pointer (some ⟨W.heap.size, 0, none⟩)] ((W.alloc (.cells #[.slice p0 n0 c0, .int .i64 v1, .int .u8 v2, .int .i64 v3, .int .i64 v4, .int .i64 v5, .bool v6, .bool v7, .int .i64 v8, .int .i64 v9] 53)).drewN m) fun e w' =>
      e = .returned (.tuple #[.slice p0 n0 c0, .int .i64 v1, .int .u8 v2, .int .i64 v3, .int .i64 v4, .int .i64 v5, .bool v6, .bool v7, .int .i64 v8, .int .i64 v9]) ∧ ∃ m, w' = (W.alloc (.cells #[.slice p0 n0 c0, .int .i64 v1, .int .u8 v2, .int .i64 v3, .int .i64 v4, .int .i64 v5, .bool v6, .bool v7, .int .i64 v8, .int .i64 v9] 53)).drewN m := by
  refine (fields_any W.heap.size 0 p0 n0 c0 v1 v2 v3 v4 v5 v6 v7 v8 v9 _ ?_ ?_ ?_ ?_ ?_ ?_ ?_ ?_ ?_ ?_).mono ?_
  iterate 10 simp
  rintro e w' ⟨rfl, k, hw⟩
  exact ⟨rfl, m + k, by rw [hw, World.drewN_drewN]⟩

theorem small (a0 : Option Addr) (n0 c0 : Nat) (z0 : List Int) (a1 : Int) (a2 : Option Addr) (n2 c2 : Nat) (z2 : List Int) (a3 : Bool) (w : World) (s0 : Src w a0 n0 c0 z0) (s2 : Src w a2 n2 c2 z2) (h0 : n0 ≤ 65536) (h2 : n2 ≤ 65533) :
    Calls Try.prog 5 #[.slice a0 n0 c0, .int .u8 a1, .slice a2 n2 c2, .bool a3] w fun e w' => e = .returned (.bool true) ∧ Below w.heap.size w w' := by
  obtain ⟨i5, hi, hz0, hz1, hz2⟩ := info_parts info5
  go_enter Try.func5, Try.ntmps5
  go_wp2_with (first
    | (go_at_call 17; refine (zz_small _ _ _ _ _ _ _ _ _ h0 h2).mono ?_; rintro e w' ⟨rfl, hw⟩; subst w')
    | (at_make; refine wpList_make_own _ rfl _ _ 25 rfl w.heap.size 5 i5 (.int .u8 0) 1 Try.underlying25 hi hz0 hz1 _ _ _ (n0 + 4 + n2) rfl rfl (by omega) (by rw [hz2]; omega) (by unfold maxLen; omega) (Nat.le_refl _) ?_; intro w1 hown1 hgrow1; have b1 : Below w.heap.size w w1 := (Below.refl _ _).grown hgrow1 (Nat.le_refl _) (by intro k hk; cases hk); have s01 := s0.below b1 (Nat.le_refl _); clear hgrow1)
    | (at_builtin; refine wpList_append_fits_any _ rfl (.tmp 46) (.tmp 47) 25 rfl w.heap.size 5 i5 1 Try.underlying25 hi hz1 w.heap.size 0 (n0 + 4 + n2) [] rfl hown1 a0 n0 c0 (z0.map (Value.int .u8)) rfl (by simp [s0.1]) s0.2.1 s01.2.2 (ints_oneCell _ _) (by omega) ?_; intro w2 hown2 hgrow2; simp only [Nat.zero_add, List.nil_append] at hown2; have b2 : Below w.heap.size w w2 := b1.grown hgrow2 b1.size (by intro k hk; cases hk; exact Nat.le_refl _); clear hgrow2 hown1 b1 s01)
    | (at_builtin; refine wpList_append_fits _ rfl (.tmp 49) (.tmp 56) 25 rfl w.heap.size 5 i5 1 Try.underlying25 hi hz1 w.heap.size n0 (n0 + 4 + n2) _ rfl (hown2.alloc _) ⟨w2.heap.size, 0, none⟩ 4 4 _ rfl rfl (cells4 _ _ _ _ _) (by intro u hu; simp at hu; rcases hu with rfl | rfl | rfl | rfl <;> rfl) (by omega) ?_; intro w3 hown3 hgrow3; have b3 : Below w.heap.size w w3 := (b2.alloc b2.size _).grown hgrow3 (by have := b2.size; simp; omega) (by intro k hk; cases hk; exact Nat.le_refl _); have s23 := s2.below b3 (Nat.le_refl _); clear hgrow3 hown2 b2)
    | (at_builtin; refine wpList_append_fits_any _ rfl (.tmp 58) (.tmp 59) 25 rfl w.heap.size 5 i5 1 Try.underlying25 hi hz1 w.heap.size (n0 + 4) (n0 + 4 + n2) _ rfl hown3 a2 n2 c2 (z2.map (Value.int .u8)) rfl (by simp [s2.1]) s2.2.1 s23.2.2 (ints_oneCell _ _) (by omega) ?_; intro w4 hown4 hgrow4; have b4 : Below w.heap.size w w4 := b3.grown hgrow4 b3.size (by intro k hk; cases hk; exact Nat.le_refl _); clear hgrow4 hown3 b3 s23)
    | fail)
  by_cases hm : a1 = 225
  · subst hm
    go_wp2_with (first
      | (go_at_call 12; refine (new_any _ _ _ _ _ _ _ _ _ _ _ _ _).mono ?_; rintro e w5 ⟨rfl, hw⟩; subst w5)
      | (go_at_call 13; refine (end_exif0 _ _ _ _ _ _ _ _ _ _ _ (by omega) (by omega) _).mono ?_; rintro e w6 ⟨rfl, m6, hw⟩; subst w6)
      | (go_at_call 14; refine (fields_new _ _ _ _ _ _ _ _ _ _ _ _ _ _).mono ?_; rintro e w7 ⟨rfl, m7, hw⟩; subst w7)
      | fail)
    · refine (bytesEq_none _ _ _ _ _).mono ?_
      rintro e w8 ⟨rfl, m8, hw⟩
      subst w8
      go_wp2
      go_ret
      exact ⟨rfl, below_drewN (b4.alloc b4.size _) _⟩
    · have r1 := own_row (k := n0 + 4) hown4 (by simp [s0.1])
      rw [s2.1] at r1
      have b7 : Below w4.heap.size w4 ((w4.alloc (.cells #[.slice (some ⟨w.heap.size, 0, none⟩) (n0 + 4 + n2) (n0 + 4 + n2), .int .i64 1, .int .u8 225, .int .i64 (n2 + 2), .int .i64 0, .int .i64 n0, .bool true, .bool a3, .int .i64 (n0 + 4), .int .i64 (n0 + 4 + n2)] 53)).drewN m7) := below_drewN ((Below.refl _ _).alloc (Nat.le_refl _) _) _
      have r2 := Row.below r1 b7 (Nat.le_refl _)
      have r3 := Row.below s2.row b4 (Nat.le_refl _)
      have r4 := Row.below r3 b7 (Nat.le_refl _)
      refine (bytesEq_any _ _ _ _ _ (fun i => z2.getD i 0) (by omega) _ r2 r4).mono ?_
      rintro e w8 ⟨rfl, m8, hw⟩
      subst w8
      clear r1 r2 r3 r4 b7
      go_wp2
      go_ret
      exact ⟨rfl, below_drewN (b4.alloc b4.size _) _⟩
  · have hm' : (a1 == 225) = false := by simpa using hm
    go_wp2_with (first
      | (go_at_call 12; refine (new_any _ _ _ _ _ _ _ _ _ _ _ _ _).mono ?_; rintro e w5 ⟨rfl, hw⟩; subst w5)
      | (go_at_call 13; refine (end_frame0 _ _ _ _ _ _ _ _ _ _ _ _ (by omega) hm' _).mono ?_; rintro e w6 ⟨rfl, m6, hw⟩; subst w6)
      | (go_at_call 14; refine (fields_new _ _ _ _ _ _ _ _ _ _ _ _ _ _).mono ?_; rintro e w7 ⟨rfl, m7, hw⟩; subst w7)
      | fail)
    go_ret
    exact ⟨rfl, below_drewN (b4.alloc b4.size _) _⟩

/-- Out of what the row's step tells of a slice that came in. -/
theorem src_of {w : World} {a : Option Addr} {len cap : Nat} {zs : List Int} (h : (a = none ∧ len = 0 ∧ cap = 0 ∧ zs = []) ∨ ∃ x, a = some x ∧ len ≤ cap ∧ cap ≤ maxLen ∧ zs.length = cap ∧ (∀ i, i < zs.length → w.cell? (x.add i) = some (.int .u8 (zs.getD i 0))) ∧ ∀ n ∈ zs, (Lit.int .u8 n).wf = true) :
    Src w a len cap (zs.take len) := by
  rcases h with ⟨rfl, rfl, rfl, rfl⟩ | ⟨x, rfl, hl, _, hz, hc, _⟩
  · exact ⟨rfl, fun _ => ⟨rfl, rfl⟩, fun ad had => by cases had⟩
  · refine ⟨by simp; omega, (fun h => by cases h), ?_⟩
    intro ad had j u hu
    cases had
    have hj : j < len := by
      have := (List.getElem?_eq_some_iff.1 hu).1
      simp at this
      omega
    rw [hc j (by omega)]
    rw [← hu]
    simp [hj, List.getD, show j < zs.length by omega]

theorem walk (a0 : Option Addr) (len0 cap0 : Nat) (z0 : List Int) (a1 : Int) (a2 : Option Addr) (len2 cap2 : Nat) (z2 : List Int) (a3 : Bool) (w : World) (s0 : Src w a0 len0 cap0 z0) (s2 : Src w a2 len2 cap2 z2) :
    Calls Try.prog 5 #[.slice a0 len0 cap0, .int .u8 a1, .slice a2 len2 cap2, .bool a3] w fun e w' => e = .returned (.bool true) ∧ Below w.heap.size w w' := by
  by_cases h0 : len0 ≤ 65536
  · by_cases h2 : len2 ≤ 65533
    · exact small a0 len0 cap0 z0 a1 a2 len2 cap2 z2 a3 w s0 s2 h0 h2
    · refine (big2 a0 len0 cap0 a1 a2 len2 cap2 a3 w h0 (by omega)).mono ?_
      rintro e w' ⟨rfl, hw⟩
      subst w'
      exact ⟨rfl, Below.refl _ _⟩
  · refine (big0 a0 len0 cap0 a1 a2 len2 cap2 a3 w (by omega)).mono ?_
    rintro e w' ⟨rfl, hw⟩
    subst w'
    exact ⟨rfl, Below.refl _ _⟩

end Go.Proofs.Qxb6605719a.Exif
