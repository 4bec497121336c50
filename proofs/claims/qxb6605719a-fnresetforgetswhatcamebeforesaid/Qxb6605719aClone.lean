import Derived.Test.Qxb6605719aExif
import Derived.WalkSpells
import Derived.WalkLawsBesides
import Derived.LaidEqlPtr
namespace Go.Proofs.Qxb6605719a.Clone
open Go.RowKit Go.Proofs.Qxb6605719a.Base Go.Proofs.Qxb6605719a.Exif

theorem clone_nil (w : World) : Calls Try.prog 11 #[.slice none 0 0] w fun e w' => e = .returned (.slice none 0 0) ∧ w' = w := by
  have hnil := fun (w : World) a n c n' c' => Lib.run_eql_slice_nil (P := Try.prog) w 25 5 a n c n' c' Try.underlying25
  go_enter Try.func11, Try.ntmps11
  go_wp2
  go_ret
  exact ⟨rfl, rfl⟩

/-- What the clone holds behind k rounds. -/
def part (zs : List Int) (n k : Nat) : List Value := (zs.take k).map (Value.int .u8) ++ List.replicate (n - k) (.int .u8 0)

theorem part_set (zs : List Int) (n k : Nat) (hz : zs.length = n) (hk : k < n) : (part zs n k).set k (.int .u8 (zs.getD k 0)) = part zs n (k + 1) := by
  apply List.ext_getElem?
  intro i
  have hl : ((zs.take k).map (Value.int .u8)).length = k := by simp; omega
  have hl' : ((zs.take (k + 1)).map (Value.int .u8)).length = k + 1 := by simp; omega
  unfold part
  rw [List.getElem?_set]
  by_cases hik : k = i
  · subst hik
    rw [if_pos rfl, if_pos (by simp; omega), List.getElem?_append_left (by omega)]
    simp [List.getD, show k < zs.length by omega]
  · rw [if_neg hik]
    by_cases hi : i < k
    · rw [List.getElem?_append_left (by omega), List.getElem?_append_left (by omega)]
      simp [hi, show i < k + 1 by omega]
    · rw [List.getElem?_append_right (by omega), List.getElem?_append_right (by omega), hl, hl']
      simp only [List.getElem?_replicate]
      by_cases hin : i < n
      · rw [if_pos (by omega), if_pos (by omega)]
      · rw [if_neg (by omega), if_neg (by omega)]

theorem part_all (zs : List Int) (n : Nat) (hz : zs.length = n) : part zs n n = zs.map (Value.int .u8) := by
  simp [part, ← hz]

theorem part_at (zs : List Int) (n k : Nat) (hz : zs.length = n) (hk : k < n) : (part zs n k)[k]? = some (.int .u8 0) := by
  have hl : ((zs.take k).map (Value.int .u8)).length = k := by simp; omega
  unfold part
  rw [List.getElem?_append_right (by omega), hl]
  simp only [List.getElem?_replicate]
  rw [if_pos (by omega)]

theorem clone_some (ad : Addr) (n c : Nat) (zs : List Int) (w : World) (hn : n ≤ 1048576) (hs : Src w (some ad) n c zs) :
    Calls Try.prog 11 #[.slice (some ad) n c] w fun e w' => e = .returned (.slice (some ⟨w.heap.size, 0, none⟩) n n) ∧
      w'.ownsRow w.heap.size 5 1 (.slice (some ⟨w.heap.size, 0, none⟩) n n) n (zs.map (Value.int .u8)) ∧ Below w.heap.size w w' := by
  have hnil := fun (w : World) a n c n' c' => Lib.run_eql_slice_nil (P := Try.prog) w 25 5 a n c n' c' Try.underlying25
  obtain ⟨i5, hi, hz0, hz1, hz2⟩ := info_parts info5
  go_enter Try.func11, Try.ntmps11
  go_wp2_with (first
    | (at_make; refine wpList_make_full _ rfl _ _ 25 rfl w.heap.size 5 i5 (.int .u8 0) 1 Try.underlying25 hi hz0 hz1 _ _ _ _ n rfl rfl (by omega) (by omega) (by rw [hz2]; omega) (by unfold maxLen; omega) (Nat.le_refl _) ?_; intro w1 hown1 hgrow1; have b1 : Below w.heap.size w w1 := (Below.refl _ _).grown hgrow1 (Nat.le_refl _) (by intro k hk; cases hk); clear hgrow1)
    | fail)
  clear hnil
  have hr := hs.row
  have hl := hs.1
  have own0 : w1.ownsRow w.heap.size 5 1 (.slice (some ⟨w.heap.size, 0, none⟩) n n) n (part zs n 0) := by
    have e : (madeCells (Value.int .u8 0).cells (n * 1)).toList = part zs n 0 := by
      show (madeCells #[Value.int .u8 0] (n * 1)).toList = _
      rw [toList_madeCells_one]
      simp [part]
    rw [← e]
    exact hown1
  clear hown1 hs
  go_loopw [4] (fun i wr => ∃ k : Nat, k ≤ n ∧ i = .int .i64 k ∧ wr.ownsRow w.heap.size 5 1 (.slice (some ⟨w.heap.size, 0, none⟩) n n) n (part zs n k) ∧ Below w.heap.size w wr) (fun i _ => n - (intOf i).toNat)
  case atStart => exact ⟨0, Nat.zero_le _, rfl, own0, b1⟩
  case round =>
    obtain ⟨k, hk, rfl, hown, hb⟩ := hrel
    by_cases hlt : k < n
    · rcases hr with h | ⟨b, o, hba, hc⟩
      · omega
      cases hba
      have g1 : wr.cell? ⟨b, o + k, none⟩ = some (.int .u8 (zs.getD k 0)) := by
        have h1 := hc k hlt
        rw [hb.cell (World.block_lt_of_cell? w _ h1)]
        exact h1
      have g2 : wr.cell? ⟨w.heap.size, k, none⟩ = some (.int .u8 0) := by rw [hown.cellAt k (by omega), part_at zs n k hl hlt]
      have g3 := hown.frozenAt k
      have st := hown.stored k (.int .u8 (zs.getD k 0))
      rw [part_set zs n k hl hlt] at st
      have HS : Hid ((wr.setCell ⟨w.heap.size, k, none⟩ (.int .u8 (zs.getD k 0))).ownsRow w.heap.size 5 1 (.slice (some ⟨w.heap.size, 0, none⟩) n n) n (part zs n (k + 1))) := st.1
      have HB : Hid (Below w.heap.size w (wr.setCell ⟨w.heap.size, k, none⟩ (.int .u8 (zs.getD k 0)))) := hb.setCell (Nat.le_refl _) _
      clear st hc hown own0 b1
      generalize zs.getD k 0 = z at g1 HS HB
      go_wp2
      go_roundw
      case rel => exact ⟨k + 1, by omega, by go_num, HS.out, HB.out⟩
      case measure => simp [intOf]; omega
    · have hkn : k = n := by omega
      subst hkn
      rw [part_all zs k hl] at hown
      go_wp2
      go_ret
      exact ⟨rfl, hown, hb⟩


/-- A slice value of the law's: nil, or somewhere. -/
def Kept (p : Option Addr) (n c : Nat) : Prop := (p = none ∧ n = 0 ∧ c = 0) ∨ ∃ b o, p = some ⟨b, o, none⟩

theorem same_any (p : Option Addr) (n c : Nat) (h : Kept p n c) (w : World) :
    Calls Try.prog 15 #[.slice p n c, .slice p n c] w fun e w' => e = .returned (.bool true) ∧ ∃ m, w' = w.drewN m := by
  have hnil := fun (w : World) a n c n' c' => Lib.run_eql_slice_nil (P := Try.prog) w 25 5 a n c n' c' Try.underlying25
  rcases h with ⟨rfl, rfl, rfl⟩ | ⟨b, o, rfl⟩
  · have hd : ((0 : Int) == 0) = true := rfl
    go_enter Try.func15, Try.ntmps15
    go_wp2
    go_quiet (fail)
    go_wp2
    go_ret
    exact ⟨rfl, _, rfl⟩
  · by_cases h0 : n = 0
    · subst h0
      go_enter Try.func15, Try.ntmps15
      go_wp2
      go_quiet (fail)
      go_wp2
      go_ret
      exact ⟨rfl, _, rfl⟩
    · have hd : ((n : Int) == 0) = false := by simp; omega
      have hp : (0 : Int) < (n : Int) := by omega
      obtain ⟨i5, hi, hz0, hz1, hz2⟩ := info_parts info5
      have hptr := fun (w : World) => run_eql_ptr_same (P := Try.prog) (w := w) (tp := 54) ⟨b, o, none⟩ Try.underlying54 hi
      go_enter Try.func15, Try.ntmps15
      go_wp2
      go_quiet (fail)
      go_wp2
      go_ret
      exact ⟨rfl, _, rfl⟩

end Go.Proofs.Qxb6605719a.Clone
