import Derived.Test.Qxb6606023aDots
namespace Go.Proofs.Qxb6606023a.Plain
open Go.Proofs.Qxb6606023a.Dots

/-- The name at place j. -/
def nm (ss : List ByteArray) (j : Nat) : ByteArray := ss.getD j ByteArray.empty

/-- Where name j begins in the whole. -/
def off (ss : List ByteArray) : Nat → Nat
  | 0 => 0
  | j + 1 => off ss j + (nm ss j).size + 1

/-- The first k names joined, as the loop joins them. -/
def joined (ss : List ByteArray) : Nat → ByteArray
  | 0 => ByteArray.empty
  | k + 1 => if (joined ss k).size = 0 then nm ss k else joined ss k ++ ⟨#[46]⟩ ++ nm ss k

/-- The lengths of the first k names, added up. -/
def total (ss : List ByteArray) : Nat → Nat
  | 0 => 0
  | k + 1 => total ss k + (nm ss k).size

def Good (ss : List ByteArray) : Prop := ∀ j, j < ss.length → (nm ss j).size ≠ 0 ∧ ∀ i (hi : i < (nm ss j).size), (nm ss j)[i] ≠ 46

theorem joined_pos (ss : List ByteArray) (h : Good ss) (k : Nat) (hk : k < ss.length) : (joined ss (k + 1)).size ≠ 0 := by
  rw [joined]
  split
  · exact (h k hk).1
  · rw [joined_size]; omega

theorem joined_sz (ss : List ByteArray) (h : Good ss) (k : Nat) (hk : k < ss.length) : (joined ss (k + 1)).size = off ss k + (nm ss k).size := by
  induction k with
  | zero => simp [joined, off]
  | succ k ih =>
    rw [joined, if_neg (joined_pos ss h k (by omega)), joined_size, ih (by omega), off]

theorem joined_le (ss : List ByteArray) (k : Nat) : (joined ss k).size ≤ total ss k + k := by
  induction k with
  | zero => simp [joined]
  | succ k ih =>
    rw [joined, total]
    split
    · omega
    · rw [joined_size]; omega

/-- The bytes of the first k+1 names: what comes ahead of name k, and name k. -/
theorem joined_split (ss : List ByteArray) (h : Good ss) (k : Nat) (hk : k < ss.length) : ∃ Q : List UInt8, Q.length = off ss k ∧ (joined ss (k + 1)).data.toList = Q ++ (nm ss k).data.toList := by
  cases k with
  | zero => exact ⟨[], rfl, by simp [joined]⟩
  | succ k =>
    refine ⟨(joined ss (k + 1)).data.toList ++ [46], ?_, ?_⟩
    · rw [List.length_append, len_data, joined_sz ss h k (by omega), off]; rfl
    · rw [joined, if_neg (joined_pos ss h k (by omega)), joined_data]
      simp

/-- The first j+1 names open the whole. -/
theorem joined_prefix (ss : List ByteArray) (h : Good ss) (j d : Nat) (hd : j + 1 + d ≤ ss.length) : ∃ R : List UInt8, (joined ss (j + 1 + d)).data.toList = (joined ss (j + 1)).data.toList ++ R ∧ (d = 0 → R = []) ∧ (d ≠ 0 → ∃ R', R = 46 :: R') := by
  induction d with
  | zero => exact ⟨[], by simp, fun _ => rfl, fun h => absurd rfl h⟩
  | succ d ih =>
    obtain ⟨R, e, _, h2⟩ := ih (by omega)
    have e1 : (joined ss (j + 1 + (d + 1))).data.toList = (joined ss (j + 1 + d)).data.toList ++ 46 :: (nm ss (j + 1 + d)).data.toList := by
      show (joined ss ((j + 1 + d) + 1)).data.toList = _
      rw [joined, if_neg (by have := joined_pos ss h (j + d) (by omega); rw [show j + 1 + d = j + d + 1 by omega]; exact this), joined_data]
    refine ⟨R ++ 46 :: (nm ss (j + 1 + d)).data.toList, by rw [e1, e, List.append_assoc], (fun h => absurd h (by omega)), fun _ => ?_⟩
    by_cases hd0 : d = 0
    · subst hd0
      have : R = [] := by
        have := congrArg List.length e
        simp at this
        simpa using this
      exact ⟨_, by rw [this]; rfl⟩
    · obtain ⟨R', hR⟩ := h2 hd0
      exact ⟨R' ++ 46 :: (nm ss (j + 1 + d)).data.toList, by rw [hR]; rfl⟩

/-- THE WHOLE AROUND NAME j. -/
theorem whole (ss : List ByteArray) (h : Good ss) (j : Nat) (hj : j < ss.length) : ∃ Q R : List UInt8, (joined ss ss.length).data.toList = Q ++ (nm ss j).data.toList ++ R ∧ Q.length = off ss j ∧ (j + 1 = ss.length → R = []) ∧ (j + 1 < ss.length → ∃ R', R = 46 :: R') := by
  obtain ⟨Q, hQ, e1⟩ := joined_split ss h j hj
  obtain ⟨R, e2, h1, h2⟩ := joined_prefix ss h j (ss.length - (j + 1)) (by omega)
  rw [show j + 1 + (ss.length - (j + 1)) = ss.length by omega] at e2
  exact ⟨Q, R, by rw [e2, e1], hQ, fun hn => h1 (by omega), fun hn => h2 (by omega)⟩

theorem off_le {ss : List ByteArray} (h : Good ss) {j : Nat} (hj : j < ss.length) : off ss j + (nm ss j).size ≤ (joined ss ss.length).size := by
  obtain ⟨Q, R, e, hQ, _⟩ := whole ss h j hj
  have := congrArg List.length e
  rw [len_data, List.length_append, List.length_append, len_data, hQ] at this
  omega

theorem off_end {ss : List ByteArray} (h : Good ss) {j : Nat} (hj : j < ss.length) (hn : j + 1 = ss.length) : (joined ss ss.length).size = off ss j + (nm ss j).size := by
  obtain ⟨Q, R, e, hQ, h1, _⟩ := whole ss h j hj
  have := congrArg List.length e
  rw [h1 hn, len_data, List.length_append, List.length_append, len_data, hQ] at this
  simpa using this

theorem off_more {ss : List ByteArray} (h : Good ss) {j : Nat} (hn : j + 1 < ss.length) : off ss j + (nm ss j).size < (joined ss ss.length).size := by
  have h1 := off_le h (j := j + 1) hn
  rw [off] at h1
  omega

theorem inside {ss : List ByteArray} (h : Good ss) {j : Nat} (hj : j < ss.length) (i : Nat) (hi : i < (nm ss j).size) (hk : off ss j + i < (joined ss ss.length).size) : (joined ss ss.length)[off ss j + i] ≠ 46 := by
  obtain ⟨Q, R, e, hQ, _⟩ := whole ss h j hj
  have h1 := at_data _ _ hk
  rw [e, List.append_assoc, List.getElem?_append_right (by omega), hQ, Nat.add_sub_cancel_left, List.getElem?_append_left (by rw [len_data]; exact hi), at_data _ _ hi] at h1
  rw [← Option.some.inj h1]
  exact (h j hj).2 i hi

theorem between {ss : List ByteArray} (h : Good ss) {j : Nat} (hj : j < ss.length) (hn : j + 1 < ss.length) (hk : off ss j + (nm ss j).size < (joined ss ss.length).size) : (joined ss ss.length)[off ss j + (nm ss j).size] = 46 := by
  obtain ⟨Q, R, e, hQ, _, h2⟩ := whole ss h j hj
  obtain ⟨R', rfl⟩ := h2 hn
  have h1 := at_data _ _ hk
  rw [e, List.getElem?_append_right (by rw [List.length_append, len_data]; omega), List.length_append, len_data, hQ, Nat.sub_self] at h1
  exact (Option.some.inj h1).symm

theorem piece {ss : List ByteArray} (h : Good ss) {j : Nat} (hj : j < ss.length) : (joined ss ss.length).extract (off ss j) (off ss j + (nm ss j).size) = nm ss j := by
  obtain ⟨Q, R, e, hQ, _⟩ := whole ss h j hj
  rw [Lib.extract_eq, e, ← hQ, List.append_assoc, List.drop_left, show Q.length + (nm ss j).size - Q.length = (nm ss j).data.toList.length by rw [len_data]; omega, List.take_left, Lib.mk_data]
theorem nm_take (ss : List ByteArray) (j : Nat) (hj : j < ss.length) : ss.take (j + 1) = ss.take j ++ [nm ss j] := by
  rw [List.take_add_one]
  simp [nm, List.getD, hj]

end Go.Proofs.Qxb6606023a.Plain
