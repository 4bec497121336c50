import Derived.Test.Qxb6606023aFmtText
import Derived.Test.Qxb6606023aFmtRead
import Derived.WalkKit
import Derived.WalkSpells
namespace Go.Proofs.Qxb6606023aFmt.Label
open Go.RowKit Go.Extern.Stop Go.Stop Go.Extern
open Go.Proofs.Qxb6606023aFmt.Facts Go.Proofs.Qxb6606023aFmt.Read
attribute [local go_sem] Facts.call7 Facts.guard Facts.fmt2 Facts.fmt2r Facts.op3_100 Facts.strict3

/-- WHAT fmt IS ASKED. -/
def reading (n : Int) : List (List UInt8) :=
  [[118, 105, 114, 116, 117, 97, 108, 32, 107, 101, 121, 32, 37, 100], shape3, digits 8 (n % 18446744073709551616).toNat]

theorem label_all (F : Interp) (p : Int) (w : World) (hF : F.answers w.tape) (h0 : 0 ≤ p) (h1 : p < 9223372036854775807) :
    Calls Tryf.prog 4 #[.int .i64 p] w fun e w' => e = .returned (.string (FmtStop.textOf (F "fmt.Sprintf" (reading (p + 1)) 0))) ∧ Below w.heap.size w w' := by
  have hF' := answers_open hF
  go_enter Tryf.func4, Tryf.ntmps4
  go_wp2
  go_ret
  exact ⟨rfl, ((Below.refl _ _).alloc (Nat.le_refl _) _).drew⟩


theorem read_dec (s : ByteArray) (u : Nat) (x : Int) (hx : x = (u : Int)) (w : World) (hs : s.data.toList = pre ++ Lib.decDigits u) (h0 : 1 ≤ u) (h1 : u < 10000000000000000000) :
    Calls Tryf.prog 5 #[.string s] w fun e w' => e = .returned (.tuple #[.int .u64 x, .bool true]) ∧ w' = w := by
  subst hx
  obtain ⟨c, r, e, hc⟩ := dec_head u h0
  have h := read_any s (Lib.decDigits u) w hs (by rw [e]; simp) (dec_len u h1) (dec_digit u) (by rw [e]; intro c' hc'; simp at hc'; subst hc'; exact hc)
  rw [dec_val] at h
  exact h

theorem labels_differ {s1 s2 : ByteArray} {u v : Nat} (h1 : s1.data.toList = pre ++ Lib.decDigits u) (h2 : s2.data.toList = pre ++ Lib.decDigits v) (h : u ≠ v) : (s1.toList == s2.toList) = false := by
  have e : s1.toList ≠ s2.toList := by
    intro e
    rw [ByteArray.toList_eq, ByteArray.toList_eq, h1, h2] at e
    have e2 := List.append_cancel_left e
    have := dec_val u
    rw [e2, dec_val] at this
    exact h this.symm
  simpa using e

set_option maxRecDepth 100000 in
theorem law (F : Interp) (p : Int) (w : World) (hF : F.answers w.tape) (h0 : 0 ≤ p) (hn : p < 9223372036854775806) (s1 s2 : ByteArray)
    (e1 : FmtStop.textOf (F "fmt.Sprintf" (reading (p + 1)) 0) = s1) (e2 : FmtStop.textOf (F "fmt.Sprintf" (reading (p + 1 + 1)) 0) = s2)
    (d1 : s1.data.toList = pre ++ Lib.decDigits (p + 1).toNat) (d2 : s2.data.toList = pre ++ Lib.decDigits (p + 1 + 1).toNat) :
    Calls Tryf.prog 3 #[.int .i64 p] w fun e w' => e = .returned (.bool true) ∧ Below w.heap.size w w' := by
  have hne := labels_differ d1 d2 (by omega)
  have L1 := label_all F p w hF (by omega) (by omega)
  rw [e1] at L1
  have L2 : ∀ w', Below w.heap.size w w' → Calls Tryf.prog 4 #[.int .i64 (p + 1)] w' fun e w'' => e = .returned (.string s2) ∧ Below w'.heap.size w' w'' := by
    intro w' hb
    have h := label_all F (p + 1) w' (by rw [hb.tape]; exact hF) (by omega) (by omega)
    rw [e2] at h
    exact h
  have D1 : Hid (s1.data.toList = pre ++ Lib.decDigits (p + 1).toNat) := d1
  have D2 : Hid (s2.data.toList = pre ++ Lib.decDigits (p + 1 + 1).toNat) := d2
  have HL1 : Hid (Calls Tryf.prog 4 #[.int .i64 p] w fun e w' => e = .returned (.string s1) ∧ Below w.heap.size w w') := L1
  have HL2 : Hid (∀ w', Below w.heap.size w w' → Calls Tryf.prog 4 #[.int .i64 (p + 1)] w' fun e w'' => e = .returned (.string s2) ∧ Below w'.heap.size w' w'') := L2
  clear e1 e2 d1 d2 L1 L2 hF
  go_enter Tryf.func3, Tryf.ntmps3
  go_wp2_with fail
  refine HL1.out.mono ?_
  rintro e w1 ⟨rfl, b1⟩
  go_wp2_with fail
  refine (HL2.out w1 b1).mono ?_
  rintro e w2 ⟨rfl, b2⟩
  have b3 : Below w.heap.size w w2 := b1.trans (b2.mono b1.size)
  clear b1 b2 HL1 HL2
  go_wp2_with fail
  refine (read_dec s1 (p + 1).toNat (p + 1) (by omega) _ D1.out (by omega) (by omega)).mono ?_
  rintro e w3 ⟨rfl, hw⟩
  subst w3
  go_wp2_with fail
  refine (read_dec s2 (p + 1 + 1).toNat (p + 1 + 1) (by omega) _ D2.out (by omega) (by omega)).mono ?_
  rintro e w3 ⟨rfl, hw⟩
  subst w3
  go_wp2
  go_ret
  exact ⟨rfl, b3⟩


theorem law_out (p : Int) (w : World) (h : p < 0 ∨ 9223372036854775806 ≤ p) :
    Calls Tryf.prog 3 #[.int .i64 p] w fun e w' => e = .returned (.bool true) ∧ Below w.heap.size w w' := by
  rcases h with h | h
  · go_enter Tryf.func3, Tryf.ntmps3
    go_wp2
    go_ret
    exact ⟨rfl, Below.refl _ _⟩
  · have h' : ¬ p < 0 := by omega
    go_enter Tryf.func3, Tryf.ntmps3
    go_wp2
    go_ret
    exact ⟨rfl, Below.refl _ _⟩

end Go.Proofs.Qxb6606023aFmt.Label
