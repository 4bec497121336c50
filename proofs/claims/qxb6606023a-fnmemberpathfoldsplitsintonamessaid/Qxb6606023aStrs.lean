import Derived.Test.Qxb6606023aPlain
import Derived.Deep.QuietTactic
import Derived.BigQuiet
import Derived.WalkSmall
namespace Go.Proofs.Qxb6606023a.Strs
open Go.RowKit Go.Proofs.Qxb6606023a.Dots Go.Proofs.Qxb6606023a.Plain

theorem hid {p : Prop} (h : p) : Hid p := h

/-- A slice of strings that came in: its elements. -/
def Names (w : World) (a : Option Addr) (n c : Nat) (ss : List ByteArray) : Prop :=
  ss.length = n ∧ (a = none → n = 0 ∧ c = 0) ∧ (∀ j, j < n → (nm ss j).size ≤ 9223372036854775807) ∧ (n = 0 ∨ ∃ b o, a = some ⟨b, o, none⟩ ∧ ∀ j, j < n → w.cell? ⟨b, o + j, none⟩ = some (.string (nm ss j)))

def SomeBool (e : Ending) : Prop := ∃ b, e = .returned (.bool b)

theorem zz_any (a : Option Addr) (n c : Nat) (ss : List ByteArray) (w : World) (hn : n ≤ 9223372036854775807) (hs : Names w a n c ss) :
    Calls Try.prog 19 #[.slice a n c] w fun e w' => SomeBool e ∧ w' = w := by
  obtain ⟨hl, _, hsz, hr⟩ := hs
  go_enter Try.func19, Try.ntmps19
  go_wp2
  · go_ret
    exact ⟨⟨_, rfl⟩, rfl⟩
  · go_loop [3, 4] (fun t i => ∃ (k : Nat) (z : Int), k ≤ n ∧ i = .int .i64 k ∧ t = .int .i64 z ∧ 0 ≤ z ∧ z ≤ 1048576) (fun _ i => n - (intOf i).toNat)
    case atStart => exact ⟨0, n, Nat.zero_le _, rfl, by go_num, by omega, by omega⟩
    case round =>
      obtain ⟨k, z, hk, rfl, rfl, hz0, hz1⟩ := hrel
      by_cases hlt : k < n
      · rcases hr with h | ⟨b, o, rfl, hc⟩
        · omega
        have g := hc k hlt
        have gs := hsz k hlt
        clear hc hsz
        generalize nm ss k = s at g gs
        go_wp2
        · go_ret
          exact ⟨⟨_, rfl⟩, rfl⟩
        · go_ret
          exact ⟨⟨_, rfl⟩, rfl⟩
        · go_round
          case rel => exact ⟨k + 1, _, by omega, by go_num, rfl, by omega, by omega⟩
          case measure => simp [intOf]; omega
      · go_wp2
        go_ret
        exact ⟨⟨_, rfl⟩, rfl⟩

theorem info9 : (Try.prog.info? 9).map (fun i => (i.zero, i.size, i.bytes)) = some (some (.string ByteArray.empty), 1, 16) := by kernel_rfl


theorem clone_nil (w : World) : Calls Try.prog 11 #[.slice none 0 0] w fun e w' => e = .returned (.slice none 0 0) ∧ w' = w := by
  have hnil := fun (w : World) a n c n' c' => Lib.run_eql_slice_nil (P := Try.prog) w 26 9 a n c n' c' Try.underlying26
  go_enter Try.func11, Try.ntmps11
  go_wp2
  go_ret
  exact ⟨rfl, rfl⟩

/-- What the clone holds behind k rounds. -/
def part (ss : List ByteArray) (n k : Nat) : List Value := (ss.take k).map Value.string ++ List.replicate (n - k) (.string ByteArray.empty)

theorem part_set (ss : List ByteArray) (n k : Nat) (hz : ss.length = n) (hk : k < n) : (part ss n k).set k (.string (nm ss k)) = part ss n (k + 1) := by
  apply List.ext_getElem?
  intro i
  have hl : ((ss.take k).map Value.string).length = k := by simp; omega
  have hl' : ((ss.take (k + 1)).map Value.string).length = k + 1 := by simp; omega
  unfold part
  rw [List.getElem?_set]
  by_cases hik : k = i
  · subst hik
    rw [if_pos rfl, if_pos (by simp; omega), List.getElem?_append_left (by omega)]
    simp [nm, List.getD, show k < ss.length by omega]
  · rw [if_neg hik]
    by_cases hi : i < k
    · rw [List.getElem?_append_left (by omega), List.getElem?_append_left (by omega)]
      simp [hi, show i < k + 1 by omega]
    · rw [List.getElem?_append_right (by omega), List.getElem?_append_right (by omega), hl, hl']
      simp only [List.getElem?_replicate]
      by_cases hin : i < n
      · rw [if_pos (by omega), if_pos (by omega)]
      · rw [if_neg (by omega), if_neg (by omega)]

theorem part_at (ss : List ByteArray) (n k : Nat) (hz : ss.length = n) (hk : k < n) : (part ss n k)[k]? = some (.string ByteArray.empty) := by
  have hl : ((ss.take k).map Value.string).length = k := by simp; omega
  unfold part
  rw [List.getElem?_append_right (by omega), hl]
  simp only [List.getElem?_replicate]
  rw [if_pos (by omega)]

theorem part_all (ss : List ByteArray) (n : Nat) (hz : ss.length = n) : part ss n n = ss.map Value.string := by
  simp [part, ← hz]

theorem clone_some (ad : Addr) (n c : Nat) (ss : List ByteArray) (w : World) (hn : n ≤ 4096) (hs : Names w (some ad) n c ss) :
    Calls Try.prog 11 #[.slice (some ad) n c] w fun e w' => e = .returned (.slice (some ⟨w.heap.size, 0, none⟩) n n) ∧
      w'.ownsRow w.heap.size 9 1 (.slice (some ⟨w.heap.size, 0, none⟩) n n) n (ss.map Value.string) ∧ Below w.heap.size w w' := by
  have hnil := fun (w : World) a n c n' c' => Lib.run_eql_slice_nil (P := Try.prog) w 26 9 a n c n' c' Try.underlying26
  obtain ⟨i9, hi, hz0, hz1, hz2⟩ := info_parts info9
  obtain ⟨hl, _, _, hr⟩ := hs
  go_enter Try.func11, Try.ntmps11
  go_wp2_with (first
    | (at_make; refine wpList_make_full _ rfl _ _ 26 rfl w.heap.size 9 i9 (.string ByteArray.empty) 1 Try.underlying26 hi hz0 hz1 _ _ _ _ n rfl rfl (by omega) (by omega) (by rw [hz2]; omega) (by unfold maxLen; omega) (Nat.le_refl _) ?_; intro w1 hown1 hgrow1; have b1 : Below w.heap.size w w1 := (Below.refl _ _).grown hgrow1 (Nat.le_refl _) (by intro k hk; cases hk); clear hgrow1)
    | fail)
  clear hnil
  have own0 : w1.ownsRow w.heap.size 9 1 (.slice (some ⟨w.heap.size, 0, none⟩) n n) n (part ss n 0) := by
    have e : (madeCells (Value.string ByteArray.empty).cells (n * 1)).toList = part ss n 0 := by
      show (madeCells #[Value.string ByteArray.empty] (n * 1)).toList = _
      rw [toList_madeCells_one]
      simp [part]
    rw [← e]
    exact hown1
  clear hown1
  go_loopw [4] (fun i wr => ∃ k : Nat, k ≤ n ∧ i = .int .i64 k ∧ wr.ownsRow w.heap.size 9 1 (.slice (some ⟨w.heap.size, 0, none⟩) n n) n (part ss n k) ∧ Below w.heap.size w wr) (fun i _ => n - (intOf i).toNat)
  case atStart => exact ⟨0, Nat.zero_le _, rfl, own0, b1⟩
  case round =>
    obtain ⟨k, hk, rfl, hown, hb⟩ := hrel
    by_cases hlt : k < n
    · rcases hr with h | ⟨b, o, hba, hc⟩
      · omega
      cases hba
      have g1 : wr.cell? ⟨b, o + k, none⟩ = some (.string (nm ss k)) := by
        have h1 := hc k hlt
        rw [hb.cell (World.block_lt_of_cell? w _ h1)]
        exact h1
      have g2 : wr.cell? ⟨w.heap.size, k, none⟩ = some (.string ByteArray.empty) := by rw [hown.cellAt k (by omega), part_at ss n k hl hlt]
      have g3 := hown.frozenAt k
      have st := hown.stored k (.string (nm ss k))
      rw [part_set ss n k hl hlt] at st
      have HS := hid st.1
      have HB : Hid (Below w.heap.size w (wr.setCell ⟨w.heap.size, k, none⟩ (.string (nm ss k)))) := hb.setCell (Nat.le_refl _) _
      clear st hc hown own0 b1
      generalize nm ss k = z at g1 HS HB
      go_wp2
      go_roundw
      case rel => exact ⟨k + 1, by omega, by go_num, HS.out, HB.out⟩
      case measure => simp [intOf]; omega
    · have hkn : k = n := by omega
      subst hkn
      rw [part_all ss k hl] at hown
      go_wp2
      go_ret
      exact ⟨rfl, hown, hb⟩

end Go.Proofs.Qxb6606023a.Strs
