import Derived.Test.Qxb6606023aFmtProg
import Derived.WalkKit
import Derived.WalkSpells
import Derived.WalkLawsBesides
import Derived.Lib.Strings
import Derived.Lib.ItoaMem
namespace Go.Proofs.Qxb6606023aFmt.Read
open Go.RowKit

/-- The number that decimal digits spell. -/
def val (l : List UInt8) : Nat := l.foldl (fun v c => v * 10 + (c.toNat - 48)) 0

def digit (c : UInt8) : Prop := 48 ≤ c.toNat ∧ c.toNat ≤ 57

theorem val_snoc (l : List UInt8) (c : UInt8) : val (l ++ [c]) = val l * 10 + (c.toNat - 48) := by simp [val]

theorem val_lt (k : Nat) : ∀ l : List UInt8, l.length = k → (∀ c ∈ l, digit c) → val l < 10 ^ k := by
  induction k with
  | zero => intro l hl _; rw [List.eq_nil_of_length_eq_zero hl]; simp [val]
  | succ k ih =>
    intro l hl hd
    have hne : l ≠ [] := by intro e; rw [e] at hl; simp at hl
    have e := List.dropLast_concat_getLast hne
    rw [← e, val_snoc]
    have h1 := ih l.dropLast (by simp [hl]) (fun c hc => hd c (List.dropLast_subset l hc))
    have h2 := hd _ (List.getLast_mem hne)
    unfold digit at h2
    rw [Nat.pow_succ]
    omega

theorem dec_digit (u : Nat) : ∀ c ∈ Lib.decDigits u, digit c := by
  induction u using Nat.strongRecOn with
  | _ u ih =>
    intro c hc
    have key : ∀ v, v < 10 → digit (UInt8.ofNat (48 + v)) := by
      intro v hv
      unfold digit
      simp [UInt8.toNat_ofNat']
      omega
    rw [Lib.decDigits] at hc
    by_cases h : u < 10
    · rw [dif_pos h] at hc
      rw [List.mem_singleton.1 hc]
      exact key u h
    · rw [dif_neg h] at hc
      rcases List.mem_append.1 hc with hc | hc
      · exact ih (u / 10) (by omega) c hc
      · rw [List.mem_singleton.1 hc]
        exact key _ (by omega)

theorem dec_val (u : Nat) : val (Lib.decDigits u) = u := by
  induction u using Nat.strongRecOn with
  | _ u ih =>
    have key : ∀ v, v < 10 → (UInt8.ofNat (48 + v)).toNat - 48 = v := by
      intro v hv
      simp [UInt8.toNat_ofNat']
      omega
    rw [Lib.decDigits]
    by_cases h : u < 10
    · rw [dif_pos h]
      show 0 * 10 + _ = u
      rw [key u h]; omega
    · rw [dif_neg h, val_snoc, ih (u / 10) (by omega), key _ (by omega)]
      omega

theorem dec_head (u : Nat) (hu : 1 ≤ u) : ∃ c r, Lib.decDigits u = c :: r ∧ c.toNat ≠ 48 := by
  induction u using Nat.strongRecOn with
  | _ u ih =>
    rw [Lib.decDigits]
    by_cases h : u < 10
    · rw [dif_pos h]
      exact ⟨_, [], rfl, by simp [UInt8.toNat_ofNat']; omega⟩
    · rw [dif_neg h]
      obtain ⟨c, r, e, hc⟩ := ih (u / 10) (by omega) (by omega)
      rw [e]
      exact ⟨c, r ++ _, rfl, hc⟩

theorem dec_len (u : Nat) (hu : u < 10000000000000000000) : (Lib.decDigits u).length ≤ 19 := by
  rw [Lib.decDigits_length]
  by_cases h : Lib.nDigits u ≤ 19
  · exact h
  · exfalso
    have key : ∀ (k v : Nat), k < Lib.nDigits v → 10 ^ k ≤ v ∨ k = 0 := by
      intro k
      induction k with
      | zero => intro v _; exact .inr rfl
      | succ k ih =>
        intro v hv
        left
        by_cases h10 : v < 10
        · rw [Lib.nDigits_small h10] at hv; omega
        · rw [Lib.nDigits_big h10] at hv
          rw [Nat.pow_succ]
          rcases ih (v / 10) (by omega) with h | h
          · omega
          · subst h; simp; omega
    rcases key 19 u (by omega) with h | h
    · have : (10 : Nat) ^ 19 = 10000000000000000000 := by decide
      omega
    · omega


theorem at_data (s : ByteArray) (i : Nat) (h : i < s.size) : s.data.toList[i]? = some s[i] := by
  have : s.data.toList[i]? = s.data[i]? := by simp
  rw [this, Array.getElem?_eq_getElem h]; rfl

def pre : List UInt8 := [118, 105, 114, 116, 117, 97, 108, 32, 107, 101, 121, 32]

set_option maxHeartbeats 2000000 in
/-- readLabel at 'virtual key ' and digits. -/
theorem read_any (s : ByteArray) (ds : List UInt8) (w : World) (hs : s.data.toList = pre ++ ds) (h0 : 1 ≤ ds.length) (h1 : ds.length ≤ 19) (hd : ∀ c ∈ ds, digit c) (hh : ∀ c, ds[0]? = some c → c.toNat ≠ 48) :
    Calls Tryf.prog 5 #[.string s] w fun e w' => e = .returned (.tuple #[.int .u64 (val ds), .bool true]) ∧ w' = w := by
  have hz : s.size = 12 + ds.length := by
    have h := congrArg List.length hs
    rw [List.length_append, Array.length_toList] at h
    exact h
  have hz1 : 13 ≤ s.size := by omega
  have hz2 : s.size ≤ 31 := by omega
  have p1 : (s.extract 0 12).toList = [118, 105, 114, 116, 117, 97, 108, 32, 107, 101, 121, 32] := by
    rw [Lib.extract_toList, hs]; simp [pre]
  have p2 : (s.extract 12 s.size).data.toList = ds := by
    rw [Lib.extract_data, hs, hz]; exact List.take_of_length_le (by show ds.length ≤ _; omega)
  have p3 : (s.extract 12 s.size).size = ds.length := by rw [← p2]; simp
  clear hz hs
  have hq : ((((s.extract 12 s.size)[0]'(by omega)).toNat : Int) == 48) = false := by
    have h := at_data (s.extract 12 s.size) 0 (by omega)
    rw [p2] at h
    have := hh _ h
    simp; omega
  have HL : Hid (∀ k, val (ds.take k) < 10 ^ 19 ∧ (k < ds.length → val (ds.take k) ≤ 999999999999999999)) := by
    intro k
    have hm : ∀ c ∈ ds.take k, digit c := fun c hc => hd c (List.mem_of_mem_take hc)
    have h2 := val_lt (ds.take k).length _ rfl hm
    have hl : (ds.take k).length ≤ 19 := by simp; omega
    refine ⟨Nat.lt_of_lt_of_le h2 (Nat.pow_le_pow_right (by omega) hl), fun hk => ?_⟩
    have hl' : (ds.take k).length ≤ 18 := by simp; omega
    have h3 : val (ds.take k) < 10 ^ 18 := Nat.lt_of_lt_of_le h2 (Nat.pow_le_pow_right (by omega) hl')
    have h4 : (10 : Nat) ^ 18 = 1000000000000000000 := by decide
    omega
  go_enter Tryf.func5, Tryf.ntmps5
  go_wp2
  have HP : Hid ((s.extract 12 s.size).data.toList = ds) := p2
  clear p2 hh p1 hq
  go_loop [5, 6] (fun v i => ∃ k : Nat, k ≤ ds.length ∧ i = .int .i64 k ∧ v = .int .u64 (val (ds.take k))) (fun _ i => ds.length - (intOf i).toNat)
  case atStart => exact ⟨0, Nat.zero_le _, rfl, rfl⟩
  case round =>
    obtain ⟨k, hk, rfl, rfl⟩ := hrel
    by_cases hlt : k < ds.length
    · have hkd : k < (s.extract 12 s.size).size := by omega
      have hc := at_data (s.extract 12 s.size) k hkd
      rw [HP.out] at hc
      have hdg := hd _ (List.mem_of_getElem? hc)
      unfold digit at hdg
      have hdg1 : (48 : Int) ≤ (((s.extract 12 s.size)[k]).toNat : Int) := by omega
      have hdg2 : (((s.extract 12 s.size)[k]).toNat : Int) ≤ 57 := by omega
      have hv := (HL.out k).2 hlt
      have HV : Hid (((val (ds.take (k + 1)) : Nat) : Int) = (val (ds.take k) : Int) * 10 + ((((s.extract 12 s.size)[k]).toNat : Int) - 48)) := by
        have e : ds.take (k + 1) = ds.take k ++ [(s.extract 12 s.size)[k]] := by
          rw [List.take_add_one, hc]; rfl
        show ((val (ds.take (k + 1)) : Nat) : Int) = _
        rw [e, val_snoc]
        omega
      clear hc hdg HP hd
      go_wp2
      go_round
      case rel => exact ⟨k + 1, by omega, by go_num, by rw [HV.out]⟩
      case measure => simp [intOf]; omega
    · have hkn : k = ds.length := by omega
      subst hkn
      rw [List.take_length]
      go_wp2
      go_ret2
      exact ⟨rfl, rfl⟩

end Go.Proofs.Qxb6606023aFmt.Read
