import Derived.Test.Qxb6606023aProg
import Derived.WalkKit
import Derived.WalkSpells
import Derived.WalkLawsBesides
import Derived.Lib.Strings
namespace Go.Proofs.Qxb6606023a.Dots
open Go.RowKit

theorem nonempty_toList {a : ByteArray} (ha : a.size ≠ 0) : a.toList.isEmpty = false := by
  rw [ByteArray.toList_eq]
  have : a.data.toList.length ≠ 0 := by simpa using ha
  cases h : a.data.toList with
  | nil => rw [h] at this; exact absurd rfl this
  | cons x r => rfl

theorem member_empty (b : ByteArray) (w : World) :
    Calls Try.prog 17 #[.string ByteArray.empty, .string b] w fun e w' => e = .returned (.string b) ∧ w' = w := by
  go_enter Try.func17, Try.ntmps17
  go_wp2
  go_ret
  exact ⟨rfl, rfl⟩

theorem member_some (a b : ByteArray) (w : World) (ha : a.size ≠ 0) (h : a.size + b.size ≤ 9000000) :
    Calls Try.prog 17 #[.string a, .string b] w fun e w' => e = .returned (.string (a ++ ⟨#[46]⟩ ++ b)) ∧ w' = w := by
  have hne := nonempty_toList ha
  go_enter Try.func17, Try.ntmps17
  go_wp2
  go_ret
  exact ⟨rfl, rfl⟩

theorem byte_ne {c : UInt8} (h : c ≠ 46) : (((c.toNat : Nat) : Int) == 46) = false := by
  have : c.toNat ≠ 46 := fun e => h (UInt8.toNat_inj.1 e)
  simp; omega

theorem byte_eq {c : UInt8} (h : c = 46) : (((c.toNat : Nat) : Int) == 46) = true := by
  subst h; rfl

theorem lastDot_none (s : ByteArray) (w : World) (hs : s.size ≤ 9000000) (h : ∀ i (hi : i < s.size), s[i] ≠ 46) :
    Calls Try.prog 18 #[.string s] w fun e w' => e = .returned (.int .i64 (-1)) ∧ w' = w := by
  go_enter Try.func18, Try.ntmps18
  go_wp2
  go_loop [3] (fun i => ∃ k : Nat, k ≤ s.size ∧ i = .int .i64 ((k : Int) - 1)) (fun i => (intOf i + 1).toNat)
  case atStart => exact ⟨s.size, Nat.le_refl _, rfl⟩
  case round =>
    obtain ⟨k, hk, rfl⟩ := hrel
    cases k with
    | zero =>
      go_wp2
      go_ret
      exact ⟨rfl, rfl⟩
    | succ j =>
      have hj : j < s.size := by omega
      have e : ((j + 1 : Nat) : Int) - 1 = (j : Int) := by omega
      rw [e]
      have hne := byte_ne (h j hj)
      clear h e
      go_wp2
      go_round
      case rel => exact ⟨j, by omega, rfl⟩
      case measure => simp [intOf]

theorem lastDot_some (s : ByteArray) (m : Nat) (w : World) (hs : s.size ≤ 9000000) (hm : m < s.size) (hd : s[m] = 46) (h : ∀ i (hi : i < s.size), m < i → s[i] ≠ 46) :
    Calls Try.prog 18 #[.string s] w fun e w' => e = .returned (.int .i64 m) ∧ w' = w := by
  go_enter Try.func18, Try.ntmps18
  go_wp2
  go_loop [3] (fun i => ∃ k : Nat, k ≤ s.size ∧ m < k ∧ i = .int .i64 ((k : Int) - 1)) (fun i => (intOf i + 1).toNat)
  case atStart => exact ⟨s.size, Nat.le_refl _, hm, rfl⟩
  case round =>
    obtain ⟨k, hk, hmk, rfl⟩ := hrel
    cases k with
    | zero => omega
    | succ j =>
      have hj : j < s.size := by omega
      have e : ((j + 1 : Nat) : Int) - 1 = (j : Int) := by omega
      rw [e]
      by_cases hjm : j = m
      · subst hjm
        have hne := byte_eq hd
        clear h e hd
        go_wp2
        go_ret
        exact ⟨rfl, rfl⟩
      · have hne := byte_ne (h j hj (by omega))
        clear h e
        go_wp2
        go_round
        case rel => exact ⟨j, by omega, by omega, rfl⟩
        case measure => simp [intOf]

theorem zz_any (a b : ByteArray) (w : World) : Calls Try.prog 16 #[.string a, .string b] w fun e w' => (∃ x, e = .returned (.bool x)) ∧ w' = w := by
  go_enter Try.func16, Try.ntmps16
  go_wp2
  all_goals (go_ret; exact ⟨⟨_, rfl⟩, rfl⟩)

theorem zz_small (a b : ByteArray) (w : World) (h : a.size + b.size ≤ 1048576) : Calls Try.prog 16 #[.string a, .string b] w fun e w' => e = .returned (.bool true) ∧ w' = w := by
  go_enter Try.func16, Try.ntmps16
  go_wp2
  go_ret
  exact ⟨rfl, rfl⟩


/-- What is joined: its bytes. -/
theorem joined_data (a b : ByteArray) : (a ++ ⟨#[46]⟩ ++ b).data.toList = a.data.toList ++ 46 :: b.data.toList := by
  simp

theorem joined_size (a b : ByteArray) : (a ++ ⟨#[46]⟩ ++ b).size = a.size + 1 + b.size := by
  rw [ByteArray.size_append, ByteArray.size_append]; rfl

theorem at_data (s : ByteArray) (i : Nat) (h : i < s.size) : s.data.toList[i]? = some s[i] := by
  have : s.data.toList[i]? = s.data[i]? := by simp
  rw [this, Array.getElem?_eq_getElem h]; rfl

theorem len_data (s : ByteArray) : s.data.toList.length = s.size := by simp

theorem joined_at (a b : ByteArray) (h : a.size < (a ++ ⟨#[46]⟩ ++ b).size) : (a ++ ⟨#[46]⟩ ++ b)[a.size] = 46 := by
  have h1 := at_data _ _ h
  rw [joined_data, List.getElem?_append_right (by simp)] at h1
  simpa using h1.symm

theorem joined_behind (a b : ByteArray) (hb : ∀ i (hi : i < b.size), b[i] ≠ 46) (i : Nat) (hi : i < (a ++ ⟨#[46]⟩ ++ b).size) (h : a.size < i) : (a ++ ⟨#[46]⟩ ++ b)[i] ≠ 46 := by
  have h1 := at_data _ _ hi
  have hz := joined_size a b
  rw [joined_data, List.getElem?_append_right (by rw [len_data]; omega), len_data] at h1
  obtain ⟨j, rfl⟩ : ∃ j, i = a.size + 1 + j := ⟨i - (a.size + 1), by omega⟩
  have e : a.size + 1 + j - a.size = j + 1 := by omega
  rw [e, List.getElem?_cons_succ, at_data b j (by omega)] at h1
  rw [← Option.some.inj h1]
  exact hb j (by omega)

theorem joined_left (a b : ByteArray) : ((a ++ ⟨#[46]⟩ ++ b).extract 0 a.size).toList = a.toList := by
  rw [Lib.extract_toList, joined_data, ByteArray.toList_eq]
  simp

theorem joined_right (a b : ByteArray) : ((a ++ ⟨#[46]⟩ ++ b).extract (a.size + 1) (a ++ ⟨#[46]⟩ ++ b).size).toList = b.toList := by
  rw [Lib.extract_toList, joined_data, ByteArray.toList_eq, joined_size]
  have e : a.size + 1 + b.size - (a.size + 1) = b.size := by omega
  rw [e, ← len_data a, ← List.drop_drop, List.drop_left, List.drop_one, List.tail_cons, ← len_data b, List.take_length]

end Go.Proofs.Qxb6606023a.Dots
