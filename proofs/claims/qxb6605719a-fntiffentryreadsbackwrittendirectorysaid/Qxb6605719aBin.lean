import Derived.Test.Qxb6605719aExif
import Derived.WalkSpells
import Derived.WalkLawsBesides
import Derived.Lib.EndianBits
namespace Go.Proofs.Qxb6605719a.Bin
open Go.RowKit Go.Proofs.Qxb6605719a.Base Go.Proofs.Qxb6605719a.Exif

theorem hid {p : Prop} (h : p) : Hid p := h
theorem ret_int {k : IntKind} {a b : Int} (h : a = b) : Ending.returned (.int k a) = .returned (.int k b) := by rw [h]

def byt (x : Int) : Prop := 0 ≤ x ∧ x ≤ 255

theorem be16 (g o n c : Nat) (b0 b1 : Int) (w : World) (hn : 2 ≤ n) (h0 : byt b0) (h1 : byt b1)
    (c0 : w.cell? ⟨g, o, none⟩ = some (.int .u8 b0)) (c1 : w.cell? ⟨g, o + 1, none⟩ = some (.int .u8 b1)) :
    Calls Try.prog 49 #[.agg #[], .slice (some ⟨g, o, none⟩) n c] w fun e w' => e = .returned (.int .u16 (b0 * 256 + b1)) ∧ Below w.heap.size w w' := by
  obtain ⟨h00, h01⟩ := h0
  obtain ⟨h10, h11⟩ := h1
  have hg : g < w.heap.size := World.block_lt_of_cell? w _ c0
  have i0 : (0 : Int) < (n : Int) := by omega
  have i1 : (1 : Int) < (n : Int) := by omega
  go_enter Try.func49, Try.ntmps49
  go_wp2
  go_quiet (fail)
  go_wp2
  go_ret
  refine ⟨ret_int ?_, below_drewN ((Below.refl _ w).alloc (Nat.le_refl _) _) _⟩
  simp (disch := omega) only [u16_or8]
  omega

theorem le16 (g o n c : Nat) (b0 b1 : Int) (w : World) (hn : 2 ≤ n) (h0 : byt b0) (h1 : byt b1)
    (c0 : w.cell? ⟨g, o, none⟩ = some (.int .u8 b0)) (c1 : w.cell? ⟨g, o + 1, none⟩ = some (.int .u8 b1)) :
    Calls Try.prog 56 #[.agg #[], .slice (some ⟨g, o, none⟩) n c] w fun e w' => e = .returned (.int .u16 (b0 + b1 * 256)) ∧ Below w.heap.size w w' := by
  obtain ⟨h00, h01⟩ := h0
  obtain ⟨h10, h11⟩ := h1
  have hg : g < w.heap.size := World.block_lt_of_cell? w _ c0
  have i0 : (0 : Int) < (n : Int) := by omega
  have i1 : (1 : Int) < (n : Int) := by omega
  go_enter Try.func56, Try.ntmps56
  go_wp2
  go_quiet (fail)
  go_wp2
  go_ret
  refine ⟨ret_int ?_, below_drewN ((Below.refl _ w).alloc (Nat.le_refl _) _) _⟩
  simp (disch := omega) only [u16_or8]

theorem be32 (g o n c : Nat) (b0 b1 b2 b3 : Int) (w : World) (hn : 4 ≤ n) (h0 : byt b0) (h1 : byt b1) (h2 : byt b2) (h3 : byt b3)
    (c0 : w.cell? ⟨g, o, none⟩ = some (.int .u8 b0)) (c1 : w.cell? ⟨g, o + 1, none⟩ = some (.int .u8 b1)) (c2 : w.cell? ⟨g, o + 2, none⟩ = some (.int .u8 b2)) (c3 : w.cell? ⟨g, o + 3, none⟩ = some (.int .u8 b3)) :
    Calls Try.prog 50 #[.agg #[], .slice (some ⟨g, o, none⟩) n c] w fun e w' => e = .returned (.int .u32 (b0 * 16777216 + b1 * 65536 + b2 * 256 + b3)) ∧ Below w.heap.size w w' := by
  obtain ⟨h00, h01⟩ := h0
  obtain ⟨h10, h11⟩ := h1
  obtain ⟨h20, h21⟩ := h2
  obtain ⟨h30, h31⟩ := h3
  have hg : g < w.heap.size := World.block_lt_of_cell? w _ c0
  have i0 : (0 : Int) < (n : Int) := by omega
  have i1 : (1 : Int) < (n : Int) := by omega
  have i2 : (2 : Int) < (n : Int) := by omega
  have i3 : (3 : Int) < (n : Int) := by omega
  go_enter Try.func50, Try.ntmps50
  go_wp2
  go_quiet (fail)
  go_wp2
  go_ret
  refine ⟨ret_int ?_, below_drewN ((Below.refl _ w).alloc (Nat.le_refl _) _) _⟩
  simp (disch := omega) only [u32_or8, u32_or16, u32_or24]
  omega

theorem le32 (g o n c : Nat) (b0 b1 b2 b3 : Int) (w : World) (hn : 4 ≤ n) (h0 : byt b0) (h1 : byt b1) (h2 : byt b2) (h3 : byt b3)
    (c0 : w.cell? ⟨g, o, none⟩ = some (.int .u8 b0)) (c1 : w.cell? ⟨g, o + 1, none⟩ = some (.int .u8 b1)) (c2 : w.cell? ⟨g, o + 2, none⟩ = some (.int .u8 b2)) (c3 : w.cell? ⟨g, o + 3, none⟩ = some (.int .u8 b3)) :
    Calls Try.prog 57 #[.agg #[], .slice (some ⟨g, o, none⟩) n c] w fun e w' => e = .returned (.int .u32 (b0 + b1 * 256 + b2 * 65536 + b3 * 16777216)) ∧ Below w.heap.size w w' := by
  obtain ⟨h00, h01⟩ := h0
  obtain ⟨h10, h11⟩ := h1
  obtain ⟨h20, h21⟩ := h2
  obtain ⟨h30, h31⟩ := h3
  have hg : g < w.heap.size := World.block_lt_of_cell? w _ c0
  have i0 : (0 : Int) < (n : Int) := by omega
  have i1 : (1 : Int) < (n : Int) := by omega
  have i2 : (2 : Int) < (n : Int) := by omega
  have i3 : (3 : Int) < (n : Int) := by omega
  go_enter Try.func57, Try.ntmps57
  go_wp2
  go_quiet (fail)
  go_wp2
  go_ret
  refine ⟨ret_int ?_, below_drewN ((Below.refl _ w).alloc (Nat.le_refl _) _) _⟩
  simp (disch := omega) only [u32_or8, u32_or16, u32_or24]

/-- The bytes that put16 and put32 lay. -/
def p16 (big : Bool) (v : Int) : List Int := if big then [v / 256, v % 256] else [v % 256, v / 256]
def p32 (big : Bool) (v : Int) : List Int := if big then p16 true (v / 65536) ++ p16 true (v % 65536) else p16 false (v % 65536) ++ p16 false (v / 65536)

theorem cells2 (W : World) (v0 v1 : Value) : ∀ (j : Nat) u, [v0, v1][j]? = some u → (W.alloc (.cells #[v0, v1] 5)).cell? ((⟨W.heap.size, 0, none⟩ : Addr).add j) = some u := by
  intro j u hj
  match j, hj with
  | 0, hj => simp at hj; subst hj; simp [Addr.add]
  | 1, hj => simp at hj; subst hj; simp [Addr.add]
  | n + 2, hj => simp at hj

theorem put16_any (base : Nat) (b : Value) (n : Nat) (xs : List Value) (v : Int) (big : Bool) (w : World) (hown : w.ownsRow base 5 1 b n xs) (hn : n ≤ 9000000) (hb : base ≤ w.heap.size) (h0 : 0 ≤ v) (h1 : v ≤ 65535) :
    Calls Try.prog 24 #[b, .int .u16 v, .bool big] w fun e w' => ∃ b', e = .returned b' ∧ w'.ownsRow base 5 1 b' (n + 2) (xs ++ (p16 big v).map (Value.int .u8)) ∧ Below base w w' := by
  obtain ⟨i5, hi, hz0, hz1, hz2⟩ := info_parts info5
  have HO := hid hown
  clear hown
  cases big
  · go_enter Try.func24, Try.ntmps24
    go_wp2_with (at_builtin; refine wpList_append_own _ rfl (.tmp 16) (.tmp 22) 25 rfl base 5 i5 (.int .u8 0) 1 1 Try.underlying25 hi hz0 hz1 hz2 rfl (by decide) _ _ _ rfl (HO.out.alloc _) ⟨w.heap.size, 0, none⟩ 2 2 _ rfl rfl (cells2 _ _ _) (by intro u hu; simp at hu; rcases hu with rfl | rfl <;> rfl) (by unfold maxLen; omega) (by omega) (by simp; omega) ?_; intro v' w1 own1 gr1 _)
    go_ret
    refine ⟨v', rfl, own1, ?_⟩
    exact ((Below.refl base w).alloc hb _).grown gr1 (by simp; omega) (fun k hk => (HO.out.lt k hk).1)
  · go_enter Try.func24, Try.ntmps24
    go_wp2_with (at_builtin; refine wpList_append_own _ rfl (.tmp 8) (.tmp 14) 25 rfl base 5 i5 (.int .u8 0) 1 1 Try.underlying25 hi hz0 hz1 hz2 rfl (by decide) _ _ _ rfl (HO.out.alloc _) ⟨w.heap.size, 0, none⟩ 2 2 _ rfl rfl (cells2 _ _ _) (by intro u hu; simp at hu; rcases hu with rfl | rfl <;> rfl) (by unfold maxLen; omega) (by omega) (by simp; omega) ?_; intro v' w1 own1 gr1 _)
    go_ret
    refine ⟨v', rfl, own1, ?_⟩
    exact ((Below.refl base w).alloc hb _).grown gr1 (by simp; omega) (fun k hk => (HO.out.lt k hk).1)

theorem put32_any (base : Nat) (b : Value) (n : Nat) (xs : List Value) (v : Int) (big : Bool) (w : World) (hown : w.ownsRow base 5 1 b n xs) (hn : n ≤ 8000000) (hb : base ≤ w.heap.size) (h0 : 0 ≤ v) (h1 : v ≤ 4294967295) :
    Calls Try.prog 25 #[b, .int .u32 v, .bool big] w fun e w' => ∃ b', e = .returned b' ∧ w'.ownsRow base 5 1 b' (n + 4) (xs ++ (p32 big v).map (Value.int .u8)) ∧ Below base w w' := by
  cases big
  · have H1 := hid (put16_any base b n xs (v % 65536) false w hown (by omega) hb (by omega) (by omega))
    clear hown
    go_enter Try.func25, Try.ntmps25
    go_wp2_with fail
    refine H1.out.mono ?_
    rintro e w1 ⟨b1, rfl, own1, bl1⟩
    have H2 := hid (put16_any base b1 (n + 2) _ (v / 65536) false w1 own1 (by omega) (by have := bl1.size; omega) (by omega) (by omega))
    clear own1
    go_wp2_with fail
    refine H2.out.mono ?_
    rintro e w2 ⟨b2, rfl, own2, bl2⟩
    have O2 := hid own2
    clear own2
    go_wp2
    go_ret
    refine ⟨b2, rfl, ?_, bl1.trans bl2⟩
    have h := O2.out
    rw [List.append_assoc, ← List.map_append] at h
    exact h
  · have H1 := hid (put16_any base b n xs (v / 65536) true w hown (by omega) hb (by omega) (by omega))
    clear hown
    go_enter Try.func25, Try.ntmps25
    go_wp2_with fail
    refine H1.out.mono ?_
    rintro e w1 ⟨b1, rfl, own1, bl1⟩
    have H2 := hid (put16_any base b1 (n + 2) _ (v % 65536) true w1 own1 (by omega) (by have := bl1.size; omega) (by omega) (by omega))
    clear own1
    go_wp2_with fail
    refine H2.out.mono ?_
    rintro e w2 ⟨b2, rfl, own2, bl2⟩
    have O2 := hid own2
    clear own2
    go_wp2
    go_ret
    refine ⟨b2, rfl, ?_, bl1.trans bl2⟩
    have h := O2.out
    rw [List.append_assoc, ← List.map_append] at h
    exact h

end Go.Proofs.Qxb6605719a.Bin
