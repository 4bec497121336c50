import Derived.Test.Qxb6605719aProg
import Derived.WalkKit
import Derived.Deep.QuietTactic
import Derived.BigQuiet
import Derived.BigRegion
namespace Go.Proofs.Qxb6605719a.Base
open Go.RowKit

/-- Two rows of bytes of one length that hold the same numbers: bytesEq says true. -/
theorem bytesEq_rows (b1 o1 b2 o2 n c1 c2 : Nat) (f : Nat → Int) (hn : n ≤ 9223372036854775807) (w : World)
    (h1 : ∀ i, i < n → w.cell? ⟨b1, o1 + i, none⟩ = some (.int .u8 (f i))) (h2 : ∀ i, i < n → w.cell? ⟨b2, o2 + i, none⟩ = some (.int .u8 (f i))) :
    Calls Try.prog 16 #[.slice (some ⟨b1, o1, none⟩) n c1, .slice (some ⟨b2, o2, none⟩) n c2] w fun e w' => e = .returned (.bool true) ∧ ∃ m, w' = w.drewN m := by
  go_enter Try.func16, Try.ntmps16
  go_wp2
  go_loopw [5] (fun i wr => ∃ k nq : Nat, k ≤ n ∧ i = .int .i64 k ∧ wr = w.drewN nq) (fun i _ => n - (intOf i).toNat)
  case atStart => exact ⟨0, 0, Nat.zero_le _, rfl, rfl⟩
  case round =>
    obtain ⟨k, nq, hk, rfl, rfl⟩ := hrel
    by_cases hlt : k < n
    · have g1 := h1 k hlt
      have g2 := h2 k hlt
      have k0 : (0 : Int) ≤ (k : Int) := by omega
      have k1 : (k : Int) < (n : Int) := by omega
      go_wp2
      go_quiet (fail)
      go_wp2
      go_roundw
      case rel => exact ⟨k + 1, _, by omega, by go_num, rfl⟩
      case measure => simp [intOf]; omega
    · go_wp2
      go_ret
      exact ⟨rfl, nq, rfl⟩


/-- No bytes on either side. -/
theorem bytesEq_none (a1 a2 : Option Addr) (c1 c2 : Nat) (w : World) :
    Calls Try.prog 16 #[.slice a1 0 c1, .slice a2 0 c2] w fun e w' => e = .returned (.bool true) ∧ ∃ m, w' = w.drewN m := by
  go_enter Try.func16, Try.ntmps16
  go_wp2
  refine wp_loop_rounds 1 ?_
  rw [rounds_succ]
  go_wp2
  go_ret
  exact ⟨rfl, 0, rfl⟩

/-- A row of bytes: n cells from an address on; nothing is said of the address where n is 0. -/
def Row (w : World) (a : Option Addr) (n : Nat) (f : Nat → Int) : Prop :=
  n = 0 ∨ ∃ b o, a = some ⟨b, o, none⟩ ∧ ∀ i, i < n → w.cell? ⟨b, o + i, none⟩ = some (.int .u8 (f i))

theorem bytesEq_any (a1 a2 : Option Addr) (n c1 c2 : Nat) (f : Nat → Int) (hn : n ≤ 9223372036854775807) (w : World) (h1 : Row w a1 n f) (h2 : Row w a2 n f) :
    Calls Try.prog 16 #[.slice a1 n c1, .slice a2 n c2] w fun e w' => e = .returned (.bool true) ∧ ∃ m, w' = w.drewN m := by
  by_cases h0 : n = 0
  · subst h0
    exact bytesEq_none a1 a2 c1 c2 w
  · rcases h1 with h | ⟨b1, o1, rfl, g1⟩
    · exact absurd h h0
    rcases h2 with h | ⟨b2, o2, rfl, g2⟩
    · exact absurd h h0
    exact bytesEq_rows b1 o1 b2 o2 n c1 c2 f hn w g1 g2

/-- ZZjpegFields only reads. -/
theorem fields_any (b o : Nat) (v0 : Option Addr) (n0 c0 : Nat) (v1 v2 v3 v4 v5 : Int) (v6 v7 : Bool) (v8 v9 : Int) (w : World)
    (h0 : w.cell? ⟨b, o, none⟩ = some (.slice v0 n0 c0)) (h1 : w.cell? ⟨b, o + 1, none⟩ = some (.int .i64 v1)) (h2 : w.cell? ⟨b, o + 2, none⟩ = some (.int .u8 v2))
    (h3 : w.cell? ⟨b, o + 3, none⟩ = some (.int .i64 v3)) (h4 : w.cell? ⟨b, o + 4, none⟩ = some (.int .i64 v4)) (h5 : w.cell? ⟨b, o + 5, none⟩ = some (.int .i64 v5))
    (h6 : w.cell? ⟨b, o + 6, none⟩ = some (.bool v6)) (h7 : w.cell? ⟨b, o + 7, none⟩ = some (.bool v7)) (h8 : w.cell? ⟨b, o + 8, none⟩ = some (.int .i64 v8)) (h9 : w.cell? ⟨b, o + 9, none⟩ = some (.int .i64 v9)) :
    Calls Try.prog 14 #[.pointer (some ⟨b, o, none⟩)] w fun e w' => e = .returned (.tuple #[.slice v0 n0 c0, .int .i64 v1, .int .u8 v2, .int .i64 v3, .int .i64 v4, .int .i64 v5, .bool v6, .bool v7, .int .i64 v8, .int .i64 v9]) ∧ ∃ m, w' = w.drewN m := by
  go_enter Try.func14, Try.ntmps14
  go_wp2
  go_quiet (fail)
  go_wp2
  exact bodyPost_ret (by simp [results, Try.results14, go_sem]) rfl ⟨rfl, _, rfl⟩

/-- ZZnewJpegHeader lays one block of ten cells. -/
theorem new_any (p0 : Option Addr) (n0 c0 : Nat) (v1 v2 v3 v4 v5 : Int) (v6 v7 : Bool) (v8 v9 : Int) (w : World) :
    Calls Try.prog 12 #[.slice p0 n0 c0, .int .i64 v1, .int .u8 v2, .int .i64 v3, .int .i64 v4, .int .i64 v5, .bool v6, .bool v7, .int .i64 v8, .int .i64 v9] w fun e w' =>
      e = .returned (.pointer (some ⟨w.heap.size, 0, none⟩)) ∧ w' = w.alloc (.cells #[.slice p0 n0 c0, .int .i64 v1, .int .u8 v2, .int .i64 v3, .int .i64 v4, .int .i64 v5, .bool v6, .bool v7, .int .i64 v8, .int .i64 v9] 53) := by
  go_enter Try.func12, Try.ntmps12
  go_wp2
  go_ret
  exact ⟨rfl, rfl⟩

theorem set_new (W : World) (cs : Array Value) (t m i : Nat) (v : Value) :
    ((W.alloc (.cells cs t)).drewN m).setCell ⟨W.heap.size, i, none⟩ v = (W.alloc (.cells (cs.setIfInBounds i v) t)).drewN m := by
  show ((W.alloc (.cells cs t)).setCell ⟨W.heap.size, i, none⟩ v).drewN m = _
  rw [World.setCell_alloc_at _ _ _ _ _ rfl]

theorem end_neg (p0 : Option Addr) (n0 c0 : Nat) (v1 v2 v3 v4 v5 : Int) (v6 v7 : Bool) (v8 v9 : Int) (h5 : v5 < 0) (W : World) (m : Nat) :
    Calls Try.prog 13 #[.pointer (some ⟨W.heap.size, 0, none⟩)] ((W.alloc (.cells #[.slice p0 n0 c0, .int .i64 v1, .int .u8 v2, .int .i64 v3, .int .i64 v4, .int .i64 v5, .bool v6, .bool v7, .int .i64 v8, .int .i64 v9] 53)).drewN m) fun e w' =>
      e = .returned (.tuple #[]) ∧ ∃ m, w' = (W.alloc (.cells #[.slice p0 n0 c0, .int .i64 1, .int .u8 v2, .int .i64 v3, .int .i64 v4, .int .i64 v5, .bool v6, .bool v7, .int .i64 v8, .int .i64 v9] 53)).drewN m := by
  go_enter Try.func13, Try.ntmps13
  go_wp2
  go_end0
  go_wp2
  go_end0
  exact ⟨rfl, m, by rw [set_new]; rfl⟩

theorem end_frame (p0 : Option Addr) (n0 c0 : Nat) (v1 v2 v3 v4 v5 : Int) (v6 v7 : Bool) (v8 v9 : Int) (h5 : 0 ≤ v5) (h2 : (v2 == 225) = false) (W : World) (m : Nat) :
    Calls Try.prog 13 #[.pointer (some ⟨W.heap.size, 0, none⟩)] ((W.alloc (.cells #[.slice p0 n0 c0, .int .i64 v1, .int .u8 v2, .int .i64 v3, .int .i64 v4, .int .i64 v5, .bool v6, .bool v7, .int .i64 v8, .int .i64 v9] 53)).drewN m) fun e w' =>
      e = .returned (.tuple #[]) ∧ ∃ m, w' = (W.alloc (.cells #[.slice p0 n0 c0, .int .i64 1, .int .u8 v2, .int .i64 v3, .int .i64 v4, .int .i64 v5, .bool v6, .bool true, .int .i64 v8, .int .i64 v9] 53)).drewN m := by
  go_enter Try.func13, Try.ntmps13
  go_wp2
  go_end0
  go_wp2
  go_end0
  exact ⟨rfl, m, by rw [set_new, set_new]; rfl⟩

theorem end_exif (p0 : Option Addr) (n0 c0 : Nat) (v1 v3 v4 v5 : Int) (v6 v7 : Bool) (v8 v9 : Int) (h5 : 0 ≤ v5) (h5' : v5 ≤ 9000000) (W : World) (m : Nat) :
    Calls Try.prog 13 #[.pointer (some ⟨W.heap.size, 0, none⟩)] ((W.alloc (.cells #[.slice p0 n0 c0, .int .i64 v1, .int .u8 225, .int .i64 v3, .int .i64 v4, .int .i64 v5, .bool v6, .bool v7, .int .i64 v8, .int .i64 v9] 53)).drewN m) fun e w' =>
      e = .returned (.tuple #[]) ∧ ∃ m, w' = (W.alloc (.cells #[.slice p0 n0 c0, .int .i64 1, .int .u8 225, .int .i64 v3, .int .i64 v4, .int .i64 v5, .bool true, .bool v7, .int .i64 (v5 + 4), .int .i64 n0] 53)).drewN m := by
  go_enter Try.func13, Try.ntmps13
  go_wp2
  go_region
  go_wp2
  go_end0
  go_wp2
  go_end0
  exact ⟨rfl, m + 1, by rw [set_new, set_new, set_new, set_new]; rfl⟩


/-- zzBytes of the window's law: whatever the lengths it answers and turns nothing. -/
theorem zz_any (a0 : Option Addr) (n0 c0 : Nat) (a1 : Int) (a2 : Option Addr) (n2 c2 : Nat) (a3 : Bool) (w : World) :
    Calls Try.prog 17 #[.slice a0 n0 c0, .int .u8 a1, .slice a2 n2 c2, .bool a3] w fun e w' => (∃ b, e = .returned (.bool b)) ∧ w' = w := by
  go_enter Try.func17, Try.ntmps17
  go_wp2
  all_goals (go_ret; exact ⟨⟨_, rfl⟩, rfl⟩)

theorem zz_small (a0 : Option Addr) (n0 c0 : Nat) (a1 : Int) (a2 : Option Addr) (n2 c2 : Nat) (a3 : Bool) (w : World) (h0 : n0 ≤ 65536) (h2 : n2 ≤ 65533) :
    Calls Try.prog 17 #[.slice a0 n0 c0, .int .u8 a1, .slice a2 n2 c2, .bool a3] w fun e w' => e = .returned (.bool true) ∧ w' = w := by
  go_enter Try.func17, Try.ntmps17
  go_wp2
  go_ret
  exact ⟨rfl, rfl⟩

end Go.Proofs.Qxb6605719a.Base
