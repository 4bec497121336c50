import Derived.Test.Qxb6605719aBin
import Derived.Handy
import Derived.Deep.RegionHeld3
import Derived.Deep.DrawnRows
namespace Go.Proofs.Qxb6605719a.Entry
open Go.RowKit Go.Proofs.Qxb6605719a.Base Go.Proofs.Qxb6605719a.Exif Go.Proofs.Qxb6605719a.Bin
attribute [local go_sem ↓] Go.wp_at_zero Go.wp_at_succ

/-- A row of bytes from the head of a block. -/
def Bytes (w : World) (g N : Nat) (f : Nat → Int) : Prop := ∀ i, i < N → w.cell? ⟨g, i, none⟩ = some (.int .u8 (f i)) ∧ byt (f i)

theorem be16x (g o n c : Nat) (b0 b1 x : Int) (w : World) (hn : 2 ≤ n) (h0 : byt b0) (h1 : byt b1) (c0 : w.cell? ⟨g, o, none⟩ = some (.int .u8 b0)) (c1 : w.cell? ⟨g, o + 1, none⟩ = some (.int .u8 b1)) (hx : b0 * 256 + b1 = x) :
    Calls Try.prog 49 #[.agg #[], .slice (some ⟨g, o, none⟩) n c] w fun e w' => e = .returned (.int .u16 x) ∧ Below w.heap.size w w' := by
  subst hx
  exact be16 g o n c b0 b1 w hn h0 h1 c0 c1

theorem be32x (g o n c : Nat) (b0 b1 b2 b3 x : Int) (w : World) (hn : 4 ≤ n) (h0 : byt b0) (h1 : byt b1) (h2 : byt b2) (h3 : byt b3) (c0 : w.cell? ⟨g, o, none⟩ = some (.int .u8 b0)) (c1 : w.cell? ⟨g, o + 1, none⟩ = some (.int .u8 b1)) (c2 : w.cell? ⟨g, o + 2, none⟩ = some (.int .u8 b2)) (c3 : w.cell? ⟨g, o + 3, none⟩ = some (.int .u8 b3)) (hx : b0 * 16777216 + b1 * 65536 + b2 * 256 + b3 = x) :
    Calls Try.prog 50 #[.agg #[], .slice (some ⟨g, o, none⟩) n c] w fun e w' => e = .returned (.int .u32 x) ∧ Below w.heap.size w w' := by
  subst hx
  exact be32 g o n c b0 b1 b2 b3 w hn h0 h1 h2 h3 c0 c1 c2 c3

/-- The directory that lies at D: entry k's tag, type and count, as they read. -/
structure Dir (f : Nat → Int) (D n : Nat) (tg ty ct : Nat → Int) : Prop where
  tag : ∀ k, k < n → f (D + 12 * k) * 256 + f (D + 12 * k + 1) = tg k
  typ : ∀ k, k < n → f (D + 12 * k + 2) * 256 + f (D + 12 * k + 2 + 1) = ty k
  cnt : ∀ k, k < n → f (D + 12 * k + 4) * 16777216 + f (D + 12 * k + 4 + 1) * 65536 + f (D + 12 * k + 4 + 2) * 256 + f (D + 12 * k + 4 + 3) = ct k

/-- The contract that a row of bytes gives at a place, in every later world. -/
theorem u16_at {w : World} {g N : Nat} {f : Nat → Int} (hB : Bytes w g N f) (o n c : Nat) (x : Int) (ho : o + 2 ≤ N) (hn : 2 ≤ n) (hx : f o * 256 + f (o + 1) = x) (w' : World) (hb : Below w.heap.size w w') :
    Calls Try.prog 49 #[.agg #[], .slice (some ⟨g, o, none⟩) n c] w' fun e w'' => e = .returned (.int .u16 x) ∧ Below w.heap.size w w'' := by
  have hg : g < w.heap.size := World.block_lt_of_cell? w _ (hB o (by omega)).1
  have key : ∀ i, i < N → w'.cell? ⟨g, i, none⟩ = some (.int .u8 (f i)) := fun i hi => by rw [hb.cell (by exact hg)]; exact (hB i hi).1
  exact (be16x g o n c (f o) (f (o + 1)) x w' hn (hB o (by omega)).2 (hB (o + 1) (by omega)).2 (key o (by omega)) (key (o + 1) (by omega)) hx).mono fun e w'' ⟨h1, h2⟩ => ⟨h1, hb.trans (h2.mono hb.size)⟩

theorem u32_at {w : World} {g N : Nat} {f : Nat → Int} (hB : Bytes w g N f) (o n c : Nat) (x : Int) (ho : o + 4 ≤ N) (hn : 4 ≤ n) (hx : f o * 16777216 + f (o + 1) * 65536 + f (o + 2) * 256 + f (o + 3) = x) (w' : World) (hb : Below w.heap.size w w') :
    Calls Try.prog 50 #[.agg #[], .slice (some ⟨g, o, none⟩) n c] w' fun e w'' => e = .returned (.int .u32 x) ∧ Below w.heap.size w w'' := by
  have hg : g < w.heap.size := World.block_lt_of_cell? w _ (hB o (by omega)).1
  have key : ∀ i, i < N → w'.cell? ⟨g, i, none⟩ = some (.int .u8 (f i)) := fun i hi => by rw [hb.cell (by exact hg)]; exact (hB i hi).1
  exact (be32x g o n c (f o) (f (o + 1)) (f (o + 2)) (f (o + 3)) x w' hn (hB o (by omega)).2 (hB (o + 1) (by omega)).2 (hB (o + 2) (by omega)).2 (hB (o + 3) (by omega)).2 (key o (by omega)) (key (o + 1) (by omega)) (key (o + 2) (by omega)) (key (o + 3) (by omega)) hx).mono fun e w'' ⟨h1, h2⟩ => ⟨h1, hb.trans (h2.mono hb.size)⟩

set_option maxHeartbeats 2000000 in
theorem entry_be (g N cap d : Nat) (tag : Int) (f tg ty ct : Nat → Int) (n : Nat) (w : World) (hB : Bytes w g N f) (hN : N ≤ 9000000) (hcap : N ≤ cap) (hcm : cap ≤ 9223372036854775807) (hd : d + 2 + 12 * n ≤ N) (hn : n ≤ 4096) (hcnt : f d * 256 + f (d + 1) = (n : Int)) (hdir : Dir f (d + 2) n tg ty ct) :
    Calls Try.prog 31 #[.agg #[.slice (some ⟨g, 0, none⟩) N cap, .iface 59 (.agg #[])], .int .u32 (d : Int), .int .u16 tag] w fun e w' => Below w.heap.size w w' ∧
      ((e = .returned (.tuple #[.int .u16 0, .int .u32 0, .slice none 0 0, .bool false]) ∧ ∀ k, k < n → tg k ≠ tag) ∨
       ∃ j c, j < n ∧ tg j = tag ∧ (∀ k, k < j → tg k ≠ tag) ∧ e = .returned (.tuple #[.int .u16 (ty j), .int .u32 (ct j), .slice (some ⟨g, d + 2 + 12 * j + 8, none⟩) 4 c, .bool true])) := by
  have hg : g < w.heap.size := World.block_lt_of_cell? w _ (hB 0 (by omega)).1
  -- the world behind the box of the receiver
  obtain ⟨W, eW⟩ : ∃ W, W = w.alloc (.cells #[.slice (some ⟨g, 0, none⟩) N cap, .iface 59 (.agg #[])] 63) := ⟨_, rfl⟩
  have bW : Below w.heap.size w W := by rw [eW]; exact (Below.refl _ w).alloc (Nat.le_refl _) _
  have hBW : Bytes W g N f := fun i hi => ⟨by rw [bW.cell (by exact hg)]; exact (hB i hi).1, (hB i hi).2⟩
  have szW : W.heap.size = w.heap.size + 1 := by rw [eW]; simp
  have t0 : W.cell? ⟨w.heap.size, 0, none⟩ = some (.slice (some ⟨g, 0, none⟩) N cap) := by rw [eW]; simp
  have t1 : W.cell? ⟨w.heap.size, 1, none⟩ = some (.iface 59 (.agg #[])) := by rw [eW]; simp
  have C1 := hid (u16_at hBW d (N - d) (cap - d) (n : Int) (by omega) (by omega) hcnt)
  have BW := hid hBW
  have z1 : (0 : Int) ≤ (d : Int) := by omega
  have z2 : (d : Int) ≤ (N : Int) := by omega
  have hne : ¬ cap = d := by omega
  have ew : IntKind.i64.wrap (n : Int) = (n : Int) := IntWalk.i64_in _ ⟨by omega, by omega⟩
  have BWW := hid bW
  have KEEP : Hid (∀ w', Below W.heap.size W w' → w'.cell? ⟨w.heap.size, 0, none⟩ = some (.slice (some ⟨g, 0, none⟩) N cap) ∧ w'.cell? ⟨w.heap.size, 1, none⟩ = some (.iface 59 (.agg #[])) ∧ Below W.heap.size W w') :=
    fun w' hb => ⟨by rw [hb.cell (by rw [szW]; simp)]; exact t0, by rw [hb.cell (by rw [szW]; simp)]; exact t1, hb⟩
  have SZ := hid szW
  clear hB hcnt bW hBW szW
  go_enter Try.func31, Try.ntmps31
  go_wp2
  rw [← eW]
  have EW := hid eW
  clear eW
  go_region_held3 (fun w' => w'.cell? ⟨w.heap.size, 0, none⟩ = some (.slice (some ⟨g, 0, none⟩) N cap) ∧ w'.cell? ⟨w.heap.size, 1, none⟩ = some (.iface 59 (.agg #[])) ∧ Below W.heap.size W w') (first | (exact KEEP.out _ ((Below.refl _ _).drew)) | (exact KEEP.out _ hb1)) ((go_at_call 49; refine (C1.out _ (Below.refl _ _).drew).mono ?_; rintro e w1 ⟨rfl, hb1⟩))
  obtain ⟨k0, k1, _⟩ := KEEP.out w1 hb1
  have HDIR := hid hdir
  have HB1 := hid hb1
  clear t0 t1 C1 hb1 ew hne hdir
  by_cases hn0 : n = 0
  · subst hn0
    go_wp2
    all_goals
      refine wp_loop_rounds 1 ?_
      rw [rounds_succ]
      go_wp2
      exact bodyPost_ret (by simp [results, Try.results31, go_sem]) rfl ⟨BWW.out.trans (HB1.out.mono BWW.out.size), .inl ⟨rfl, fun k hk => absurd hk (Nat.not_lt_zero _)⟩⟩
  · have hne2 : ¬ cap = d + 2 := by omega
    go_wp2
    go_loopw [12] (fun e wr => ∃ (k : Nat) (ea : Option Addr) (ec : Nat), k ≤ n ∧ e = .slice ea (12 * (n - k)) ec ∧ (k < n → ea = some ⟨g, d + 2 + 12 * k, none⟩) ∧ 12 * (n - k) ≤ ec ∧ ec ≤ 9223372036854775807 ∧ (∀ i, i < k → tg i ≠ tag) ∧ Below W.heap.size W wr) (fun e _ => match e with | .slice _ l _ => l | _ => 0)
    case atStart => exact ⟨0, _, _, Nat.zero_le _, rfl, fun _ => rfl, by omega, by omega, fun i hi => absurd hi (Nat.not_lt_zero _), HB1.out⟩
    case round =>
      obtain ⟨k, ea, ec, hk, rfl, hea, hec, hec2, hno, hbr⟩ := hrel
      obtain ⟨c0, c1, _⟩ := KEEP.out wr hbr
      have HNO := hid hno
      have HBR := hid hbr
      clear hno k0 k1 hbr
      by_cases hlt : k < n
      · have e1 := hea hlt
        subst e1
        clear hea
        obtain ⟨r, er⟩ : ∃ r, 12 * (n - k) = r := ⟨_, rfl⟩
        rw [er] at hec ⊢
        have hr12 : 12 ≤ r := by omega
        have hrN : d + 2 + 12 * k + r ≤ N := by omega
        have ER := hid er
        clear er
        have U16 := hid (u16_at BW.out (d + 2 + 12 * k) r ec (tg k) (by omega) (by omega) (HDIR.out.tag k hlt))
        go_wp2_with (go_at_call 49; refine (U16.out _ HBR.out).mono ?_; rintro e w2 ⟨rfl, hb2⟩)
        · have htag : tg k = tag := by
            have h : (tg k == tag) = true := by assumption
            simpa using h
          have HT := hid htag
          have HB2 := hid hb2
          obtain ⟨d0, d1, _⟩ := KEEP.out w2 hb2
          have n2 : ¬ ec = 2 := by omega
          have n4 : ¬ ec = 4 := by omega
          have n8 : ¬ ec = 8 := by omega
          have j2 : (2 : Int) ≤ (r : Int) := by omega
          have j4 : (4 : Int) ≤ (r : Int) := by omega
          have j8 : (12 : Int) ≤ (ec : Int) := by omega
          have U2 := hid (u16_at BW.out (d + 2 + 12 * k + 2) (r - 2) (ec - 2) (ty k) (by omega) (by omega) (HDIR.out.typ k hlt))
          have U4 := hid (u32_at BW.out (d + 2 + 12 * k + 4) (r - 4) (ec - 4) (ct k) (by omega) (by omega) (HDIR.out.cnt k hlt))
          clear htag hb2 c0 c1 U16
          go_region_held3 (fun w' => w'.cell? ⟨w.heap.size, 0, none⟩ = some (.slice (some ⟨g, 0, none⟩) N cap) ∧ w'.cell? ⟨w.heap.size, 1, none⟩ = some (.iface 59 (.agg #[])) ∧ Below W.heap.size W w') ((refine KEEP.out _ ?_; first | exact HB2.out.drew | assumption)) ((first | (go_at_call 49; refine (U2.out _ ?_).mono ?_; (first | exact HB2.out.drew | assumption); rintro e w3 ⟨rfl, hb3⟩) | (go_at_call 50; refine (U4.out _ ?_).mono ?_; (first | exact HB2.out.drew | assumption); rintro e w4 ⟨rfl, hb4⟩)))
          go_wp2
          exact bodyPost_ret (by simp [results, Try.results31, go_sem]) rfl ⟨BWW.out.trans ((show Below W.heap.size W _ by assumption).mono BWW.out.size), .inr ⟨k, ec - 8, hlt, HT.out, HNO.out, rfl⟩⟩
        · have htag : tg k ≠ tag := by
            have h : (tg k == tag) = false := by assumption
            simpa using h
          go_roundw
          case rel =>
            refine ⟨k + 1, _, _, by omega, by rw [show 12 * (n - (k + 1)) = r - 12 by have := ER.out; omega], fun h => ?_, ?_, by omega, fun i hi => ?_, hb2⟩
            · have hx : ¬ ec = 12 := by have := ER.out; omega
              rw [if_neg hx, show d + 2 + 12 * k + 12 = d + 2 + 12 * (k + 1) by omega]
            · have := ER.out; omega
            · by_cases e : i = k
              · subst e; exact htag
              · exact HNO.out i (by omega)
          case measure => simp; omega
      · obtain rfl : k = n := by omega
        go_wp2
        exact bodyPost_ret (by simp [results, Try.results31, go_sem]) rfl ⟨BWW.out.trans (HBR.out.mono BWW.out.size), .inl ⟨rfl, HNO.out⟩⟩

end Go.Proofs.Qxb6605719a.Entry
