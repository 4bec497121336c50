import Derived.Test.Qxb6605719aDir
namespace Go.Proofs.Qxb6605719a.Law
open Go.RowKit Go.Proofs.Qxb6605719a.Base Go.Proofs.Qxb6605719a.Exif Go.Proofs.Qxb6605719a.Bin Go.Proofs.Qxb6605719a.Fields Go.Proofs.Qxb6605719a.Tiff Go.Proofs.Qxb6605719a.Dir
open Go.Proofs.Qxb6605719a.Entry (Bytes)

def SomeBool (e : Ending) : Prop := ∃ b, e = .returned (.bool b)

theorem zz_any (a0 : Option Addr) (n0 c0 : Nat) (a1 : Option Addr) (n1 c1 : Nat) (a2 : Option Addr) (n2 c2 : Nat) (big : Bool) (tag : Int) (w : World) :
    Calls Try.prog 23 #[.slice a0 n0 c0, .slice a1 n1 c1, .slice a2 n2 c2, .bool big, .int .u16 tag] w fun e w' => SomeBool e ∧ w' = w := by
  go_enter Try.func23, Try.ntmps23
  go_wp2
  all_goals (go_ret; exact ⟨⟨_, rfl⟩, rfl⟩)

theorem zz_small (a0 : Option Addr) (n0 c0 : Nat) (a1 : Option Addr) (n1 c1 : Nat) (a2 : Option Addr) (n2 c2 : Nat) (big : Bool) (tag : Int) (w : World) (h0 : n0 ≤ 65536) (h1 : n1 ≤ 4096) (h2 : n2 ≤ 65536) :
    Calls Try.prog 23 #[.slice a0 n0 c0, .slice a1 n1 c1, .slice a2 n2 c2, .bool big, .int .u16 tag] w fun e w' => e = .returned (.bool true) ∧ w' = w := by
  go_enter Try.func23, Try.ntmps23
  go_wp2
  go_ret
  exact ⟨rfl, rfl⟩

set_option maxRecDepth 100000 in
theorem early_out (a0 : Option Addr) (n0 c0 : Nat) (a1 : Option Addr) (n1 c1 : Nat) (a2 : Option Addr) (n2 c2 : Nat) (big : Bool) (tag : Int) (w : World) (h : ¬ (n0 ≤ 65536 ∧ n1 ≤ 4096 ∧ n2 ≤ 65536)) :
    Calls Try.prog 7 #[.slice a0 n0 c0, .slice a1 n1 c1, .slice a2 n2 c2, .bool big, .int .u16 tag] w fun e w' => e = .returned (.bool true) ∧ w' = w := by
  by_cases h0 : n0 ≤ 65536
  · by_cases h1 : n1 ≤ 4096
    · have h2 : 65536 < n2 := by omega
      clear h
      go_enter Try.func7, Try.ntmps7
      go_wp2_with (go_at_call 23; refine (zz_any _ _ _ _ _ _ _ _ _ _ _ _).mono ?_; rintro e w' ⟨⟨b, rfl⟩, hw⟩; subst w'; cases b)
      all_goals (go_ret; exact ⟨rfl, rfl⟩)
    · clear h
      go_enter Try.func7, Try.ntmps7
      go_wp2_with (go_at_call 23; refine (zz_any _ _ _ _ _ _ _ _ _ _ _ _).mono ?_; rintro e w' ⟨⟨b, rfl⟩, hw⟩; subst w'; cases b)
      all_goals (go_ret; exact ⟨rfl, rfl⟩)
  · clear h
    go_enter Try.func7, Try.ntmps7
    go_wp2_with (go_at_call 23; refine (zz_any _ _ _ _ _ _ _ _ _ _ _ _).mono ?_; rintro e w' ⟨⟨b, rfl⟩, hw⟩; subst w'; cases b)
    all_goals (go_ret; exact ⟨rfl, rfl⟩)

/-- The four cells of an entry, as the walk meets them. -/
theorem Flds.cells {w w' : World} {a : Option Addr} {n c : Nat} {F : Nat → Fld} (h : Flds w a n c F) (k : Nat) (hk : k < n) (hb : Below w.heap.size w w') : ∃ b o, a = some ⟨b, o, none⟩ ∧ w'.cell? ⟨b, o + k * 4, none⟩ = some (.int .u16 (F k).tg) ∧ w'.cell? ⟨b, o + k * 4 + 1, none⟩ = some (.int .u16 (F k).ty) ∧
    w'.cell? ⟨b, o + k * 4 + 2, none⟩ = some (.int .u32 (F k).ct) ∧ w'.cell? ⟨b, o + k * 4 + 3, none⟩ = some (.int .u32 (F k).vl) := by
  rcases h.2.2 with h0 | ⟨b, o, rfl, hc⟩
  · omega
  · obtain ⟨c0, c1, c2, c3⟩ := hc k hk
    have hl : b < w.heap.size := World.block_lt_of_cell? w _ c0
    exact ⟨b, o, rfl, by rw [hb.cell (by exact hl)]; exact c0, by rw [hb.cell (by exact hl)]; exact c1, by rw [hb.cell (by exact hl)]; exact c2, by rw [hb.cell (by exact hl)]; exact c3⟩

theorem own_form5 {w : World} {base n : Nat} {v : Value} {xs : List Value} (h : w.ownsRow base 5 1 v n xs) (hn : 1 ≤ n) : ∃ g cap, v = .slice (some ⟨g, 0, none⟩) n cap ∧ n ≤ cap ∧ cap ≤ 9223372036854775807 := by
  rcases h.2 with ⟨_, h0⟩ | ⟨g, cap, cur, hv, _, _, hc, hm, _⟩
  · omega
  · unfold maxLen at hm
    exact ⟨g, cap, hv, hc, hm⟩

/-- What is written behind k rounds. -/
def cur (big : Bool) (F : Nat → Fld) (zp : List Int) (n k : Nat) : List Value := (zp ++ p16 big (n : Int) ++ dirs big F k).map (Value.int .u8)

theorem cur_zero (big : Bool) (F : Nat → Fld) (zp : List Int) (n : Nat) : zp.map (Value.int .u8) ++ (p16 big (n : Int)).map (Value.int .u8) = cur big F zp n 0 := by
  simp [cur, dirs]

theorem cur_succ (big : Bool) (F : Nat → Fld) (zp : List Int) (n k : Nat) :
    cur big F zp n k ++ (p16 big (F k).tg).map (Value.int .u8) ++ (p16 big (F k).ty).map (Value.int .u8) ++ (p32 big (F k).ct).map (Value.int .u8) ++ (p32 big (F k).vl).map (Value.int .u8) = cur big F zp n (k + 1) := by
  simp [cur, dirs, ent, List.append_assoc]

theorem cur_whole (big : Bool) (F : Nat → Fld) (zp : List Int) (n : Nat) (zt : List Int) : cur big F zp n n ++ zt.map (Value.int .u8) = (whole big F zp n zt).map (Value.int .u8) := by
  simp [cur, whole]

theorem bytes_of {w : World} {base g N cap : Nat} {L : List Int} (h : w.ownsRow base 5 1 (.slice (some ⟨g, 0, none⟩) N cap) N (L.map (Value.int .u8))) (hL : ∀ x ∈ L, byt x) : Bytes w g N (fun i => L.getD i 0) := by
  intro i hi
  have hl := h.1
  simp at hl
  have hx : L[i]? = some (L[i]'(by omega)) := List.getElem?_eq_getElem (by omega)
  refine ⟨?_, ?_⟩
  · rw [h.cellAt i (by omega)]
    simp [List.getD, hx]
  · show byt (L.getD i 0)
    simp only [List.getD, hx, Option.getD_some]
    exact hL _ (List.getElem_mem _)

theorem row_val {w w' : World} {base g N cap : Nat} {L : List Int} (h : w.ownsRow base 5 1 (.slice (some ⟨g, 0, none⟩) N cap) N (L.map (Value.int .u8))) (b : Below w.heap.size w w') (o m : Nat) (V : List Int) (ho : o + m ≤ N) (hV : ∀ i, i < m → L.getD (o + i) 0 = V.getD i 0) : Row w' (some ⟨g, o, none⟩) m (fun i => V.getD i 0) := by
  refine Row.below (.inr ⟨g, o, rfl, fun i hi => ?_⟩) b (Nat.le_refl _)
  have hl := h.1
  simp at hl
  have hx : L[o + i]? = some (L[o + i]'(by omega)) := List.getElem?_eq_getElem (by omega)
  show w.cell? ⟨g, o + i, none⟩ = some (.int .u8 (V.getD i 0))
  rw [← hV i hi, h.cellAt (o + i) (by omega)]
  simp [List.getD, hx]

set_option maxHeartbeats 4000000 in
set_option maxRecDepth 100000 in
theorem main (a0 : Option Addr) (n0 c0 : Nat) (zp : List Int) (a1 : Option Addr) (n1 c1 : Nat) (F : Nat → Fld) (a2 : Option Addr) (n2 c2 : Nat) (zt : List Int) (big : Bool) (tag : Int) (w : World)
    (s0 : Src w a0 n0 c0 zp) (s1 : Flds w a1 n1 c1 F) (s2 : Src w a2 n2 c2 zt) (hp : ∀ x ∈ zp, byt x) (ht : ∀ x ∈ zt, byt x) (h0 : n0 ≤ 65536) (h1 : n1 ≤ 4096) (h2 : n2 ≤ 65536) :
    Calls Try.prog 7 #[.slice a0 n0 c0, .slice a1 n1 c1, .slice a2 n2 c2, .bool big, .int .u16 tag] w fun e w' => e = .returned (.bool true) ∧ Below w.heap.size w w' := by
  obtain ⟨i5, hi, hz0, hz1, hz2⟩ := info_parts info5
  have S0 := hid s0
  have S1 := hid s1
  have S2 := hid s2
  have hl0 := s0.1
  have HP := hid hp
  have HT := hid ht
  clear s0 s1 s2 hp ht
  go_enter Try.func7, Try.ntmps7
  go_wp2_with (first
    | (go_at_call 23; refine (zz_small _ _ _ _ _ _ _ _ _ _ _ _ h0 h1 h2).mono ?_; rintro e w' ⟨rfl, hw⟩; subst w')
    | (at_make; refine wpList_make_own _ rfl _ _ 25 rfl w.heap.size 5 i5 (.int .u8 0) 1 Try.underlying25 hi hz0 hz1 _ _ _ (n0 + 2 + 12 * n1 + n2) rfl rfl (by omega) (by rw [hz2]; omega) (by unfold maxLen; omega) (Nat.le_refl _) ?_; intro w1 hown1 hgrow1; have b1 : Below w.heap.size w w1 := (Below.refl _ _).grown hgrow1 (Nat.le_refl _) (by intro k hk; cases hk); have O1 := hid hown1; clear hgrow1 hown1)
    | (at_builtin; refine append_opt _ rfl (.tmp 51) (.tmp 52) 25 rfl w.heap.size i5 Try.underlying25 hi hz0 hz1 hz2 _ _ _ rfl O1.out a0 n0 c0 zp rfl (S0.out.below b1 (Nat.le_refl _)) (by omega) b1.size ?_; intro v2 w2 own2 gr2; have b2 : Below w.heap.size w w2 := b1.trans gr2; have O2 := hid own2; clear own2 gr2 O1 b1)
    | fail)
  have o2 := O2.out
  simp only [Nat.zero_add, List.nil_append] at o2
  have P3 := hid (put16_any w.heap.size v2 n0 _ (n1 : Int) big w2 o2 (by omega) b2.size (by omega) (by omega))
  clear o2 O2
  refine P3.out.mono ?_
  rintro e w3 ⟨b3, rfl, own3, bl3⟩
  rw [cur_zero big F zp n1] at own3
  have b3' : Below w.heap.size w w3 := b2.trans bl3
  have O3 := hid own3
  clear own3 bl3 P3 b2
  go_wp2_with fail
  go_loopw [11, 12] (fun b i wr => ∃ k : Nat, k ≤ n1 ∧ i = .int .i64 k ∧ wr.ownsRow w.heap.size 5 1 b (n0 + 2 + 12 * k) (cur big F zp n1 k) ∧ Below w.heap.size w wr) (fun _ i _ => n1 - (intOf i).toNat)
  case atStart => exact ⟨0, Nat.zero_le _, rfl, O3.out, b3'⟩
  case round =>
    obtain ⟨k, hk, rfl, own4, b4⟩ := hrel
    by_cases hlt : k < n1
    · obtain ⟨b, o, rfl, f0, f1, f2, f3⟩ := Flds.cells S1.out k hlt b4
      have FC : Hid (∀ w', Below w.heap.size w w' → w'.cell? ⟨b, o + k * 4 + 1, none⟩ = some (.int .u16 (F k).ty) ∧ w'.cell? ⟨b, o + k * 4 + 2, none⟩ = some (.int .u32 (F k).ct) ∧ w'.cell? ⟨b, o + k * 4 + 3, none⟩ = some (.int .u32 (F k).vl)) := by
        intro w' hb
        obtain ⟨b', o', e', g0, g1, g2, g3⟩ := Flds.cells S1.out k hlt hb
        cases e'
        exact ⟨g1, g2, g3⟩
      obtain ⟨q0, q1, q2, q3, q4, q5, q6, q7⟩ := S1.out.2.1 k hlt
      have Q1 := hid (put16_any w.heap.size _ (n0 + 2 + 12 * k) _ (F k).tg big wr own4 (by omega) b4.size q0 q1)
      have B4 := hid b4
      have s4 := b4.size
      clear own4 b4 f1 f2 f3 O3 b3'
      go_wp2_with fail
      refine Q1.out.mono ?_
      rintro e w5 ⟨v5, rfl, own5, bl5⟩
      have b5 := B4.out.trans bl5
      obtain ⟨f1, _, _⟩ := FC.out w5 b5
      have Q2 := hid (put16_any w.heap.size v5 (n0 + 2 + 12 * k + 2) _ (F k).ty big w5 own5 (by omega) b5.size q2 q3)
      have B5 := hid b5
      clear own5 bl5 b5 Q1 f0 B4
      go_wp2_with fail
      refine Q2.out.mono ?_
      rintro e w6 ⟨v6, rfl, own6, bl6⟩
      have b6 := B5.out.trans bl6
      obtain ⟨_, f2, _⟩ := FC.out w6 b6
      have Q3 := hid (put32_any w.heap.size v6 (n0 + 2 + 12 * k + 2 + 2) _ (F k).ct big w6 own6 (by omega) b6.size q4 q5)
      have B6 := hid b6
      clear own6 bl6 b6 Q2 f1 B5
      go_wp2_with fail
      refine Q3.out.mono ?_
      rintro e w7 ⟨v7, rfl, own7, bl7⟩
      have b7 := B6.out.trans bl7
      obtain ⟨_, _, f3⟩ := FC.out w7 b7
      have Q4 := hid (put32_any w.heap.size v7 (n0 + 2 + 12 * k + 2 + 2 + 4) _ (F k).vl big w7 own7 (by omega) b7.size q6 q7)
      have B7 := hid b7
      clear own7 bl7 b7 Q3 f2 B6
      go_wp2_with fail
      refine Q4.out.mono ?_
      rintro e w8 ⟨v8, rfl, own8, bl8⟩
      have b8 := B7.out.trans bl8
      rw [cur_succ, show n0 + 2 + 12 * k + 2 + 2 + 4 + 4 = n0 + 2 + 12 * (k + 1) by omega] at own8
      have O8 := hid own8
      have B8 := hid b8
      clear own8 bl8 b8 Q4 f3 B7 FC
      go_wp2
      go_roundw
      case rel => exact ⟨k + 1, by omega, by go_num, O8.out, B8.out⟩
      case measure => simp [intOf]; omega
    · obtain rfl : k = n1 := by omega
      have O4 := hid own4
      clear own4 O3 b3'
      go_wp2_with (at_builtin; refine append_opt _ rfl (.tmp 98) (.tmp 99) 25 rfl w.heap.size i5 Try.underlying25 hi hz0 hz1 hz2 _ _ _ rfl O4.out a2 n2 c2 zt rfl (S2.out.below b4 (Nat.le_refl _)) (by omega) b4.size ?_; intro v5 w5 own5 gr5; have b5 : Below w.heap.size w w5 := b4.trans gr5; rw [cur_whole] at own5; obtain ⟨g, cap, ev, hcap1, hcap2⟩ := own_form5 own5 (by omega); subst ev; have O5 := hid own5; clear own5 gr5 O4 b4)
      have hF : FOk F k := S1.out.2.1
      have hD : DirB big (fun i => (whole big F zp k zt).getD i 0) n0 k F := by rw [← hl0]; exact dirB big F zp k zt
      have E := hid (entry_any big g (n0 + 2 + 12 * k + n2) cap n0 k F tag _ w5 (bytes_of O5.out (whole_byt big F zp k zt hF h1 HP.out HT.out)) (by omega) hcap1 hcap2 (by omega) h1 hD)
      clear hD hF HP HT
      refine E.out.mono ?_
      rintro e w6 ⟨x, y, p, l, c, bb, rfl, hb6, hgot⟩
      have G := hid hgot
      have b6 : Below w.heap.size w w6 := b5.trans (hb6.mono b5.size)
      have B56 := hid hb6
      clear hgot hb6 E
      go_wp2_with fail
      go_loop [17, 18] (fun j i => ∃ m : Nat, m ≤ k ∧ i = .int .i64 m ∧ ((j = .int .i64 (-1) ∧ ∀ t, t < m → (F t).tg ≠ tag) ∨ ∃ q : Nat, q < k ∧ m = q + 1 ∧ j = .int .i64 q ∧ (F q).tg = tag ∧ ∀ t, t < q → (F t).tg ≠ tag)) (fun _ i => k - (intOf i).toNat)
      case atStart => exact ⟨0, Nat.zero_le _, rfl, .inl ⟨rfl, fun t ht => absurd ht (Nat.not_lt_zero _)⟩⟩
      case round =>
        obtain ⟨m, hm, rfl, hcase⟩ := hrel
        rcases hcase with ⟨rfl, hno⟩ | ⟨q, hq, rfl, rfl, htq, hno⟩
        · have HNO := hid hno
          clear hno
          by_cases hlt2 : m < k
          · obtain ⟨b, o, rfl, f0, _, _, _⟩ := Flds.cells S1.out m hlt2 b6
            by_cases htg : (F m).tg = tag
            · have hb : ((F m).tg == tag) = true := by simpa using htg
              have HTG := hid htg
              clear htg
              go_wp2
              go_round
              case rel => exact ⟨m + 1, by omega, by go_num, .inr ⟨m, hlt2, rfl, rfl, HTG.out, HNO.out⟩⟩
              case measure => simp [intOf]; omega
            · have hb : ((F m).tg == tag) = false := by simpa using htg
              have HTG := hid htg
              clear htg
              go_wp2
              go_round
              case rel =>
                refine ⟨m + 1, by omega, by go_num, .inl ⟨rfl, fun t ht => ?_⟩⟩
                by_cases e : t = m
                · subst e; exact HTG.out
                · exact HNO.out t (by omega)
              case measure => simp [intOf]; omega
          · obtain rfl : m = k := by omega
            -- none carries the tag
            rcases G.out with ⟨rfl, rfl, rfl, rfl, rfl, rfl, _⟩ | ⟨j, hj, ht, _⟩
            · have hnil := fun (w : World) a n c n' c' => Lib.run_eql_slice_nil (P := Try.prog) w 25 5 a n c n' c' Try.underlying25
              clear G
              go_wp2
              go_ret
              exact ⟨rfl, b6⟩
            · exact absurd ht (HNO.out j hj)
        · rcases G.out with ⟨_, _, _, _, _, _, hnone⟩ | ⟨j, hj, ht, hnoj, rfl, rfl, rfl, rfl, rfl⟩
          · exact absurd htq (hnone q hq)
          obtain rfl : j = q := by
            by_cases h3 : j < q
            · exact absurd ht (hno j h3)
            · by_cases h4 : q < j
              · exact absurd htq (hnoj q h4)
              · omega
          obtain ⟨b, o, rfl, _, f1, f2, f3⟩ := Flds.cells S1.out j hj b6
          obtain ⟨q0, q1, q2, q3, q4, q5, q6, q7⟩ := S1.out.2.1 j hj
          have PV := hid (put32_any w6.heap.size (.slice none 0 0) 0 [] (F j).vl big w6 (World.ownsRow_nil _ _ _ _) (by omega) (Nat.le_refl _) q6 q7)
          have FC : Hid (∀ w', Below w.heap.size w w' → w'.cell? ⟨b, o + j * 4 + 1, none⟩ = some (.int .u16 (F j).ty) ∧ w'.cell? ⟨b, o + j * 4 + 2, none⟩ = some (.int .u32 (F j).ct)) := by
            intro w' hb
            obtain ⟨b', o', e', g0, g1, g2, g3⟩ := Flds.cells S1.out j hj hb
            cases e'
            exact ⟨g1, g2⟩
          clear G ht htq hno hnoj f1 f2
          by_cases hg2 : j + 1 < k
          all_goals
            go_wp2_with fail
            refine PV.out.mono ?_
            rintro e w7 ⟨b7, rfl, own7, bl7⟩
            have b77 : Below w.heap.size w w7 := b6.trans (bl7.mono b6.size)
            obtain ⟨f1, f2⟩ := FC.out w7 b77
            simp only [Nat.zero_add, List.nil_append] at own7
            obtain ⟨g7, cap7, ev, _, _⟩ := own_form5 own7 (by omega)
            subst ev
            have r1 := row_val O5.out (B56.out.trans (bl7.mono B56.out.size)) (n0 + 2 + 12 * j + 8) 4 (p32 big (F j).vl) (by omega) (fun i hi => by rw [← hl0]; exact at_val big F zp k zt j hj i hi)
            have r2 := row_val own7 (Below.refl _ _) 0 4 (p32 big (F j).vl) (by omega) (fun i hi => by rw [Nat.zero_add])
            have BE := hid (bytesEq_any (some ⟨g, n0 + 2 + 12 * j + 8, none⟩) (some ⟨g7, 0, none⟩) 4 c cap7 _ (by omega) w7 r1 r2)
            clear own7 bl7 PV f3 r1 r2 FC
            go_wp2_with (go_at_call 16; refine BE.out.mono ?_; rintro e w8 ⟨rfl, m8, hw⟩; subst w8)
            go_ret
            exact ⟨rfl, below_drewN b77 _⟩

theorem walk (a0 : Option Addr) (n0 c0 : Nat) (zp : List Int) (a1 : Option Addr) (n1 c1 : Nat) (F : Nat → Fld) (a2 : Option Addr) (n2 c2 : Nat) (zt : List Int) (big : Bool) (tag : Int) (w : World)
    (s0 : Src w a0 n0 c0 zp) (s1 : Flds w a1 n1 c1 F) (s2 : Src w a2 n2 c2 zt) (hp : ∀ x ∈ zp, byt x) (ht : ∀ x ∈ zt, byt x) :
    Calls Try.prog 7 #[.slice a0 n0 c0, .slice a1 n1 c1, .slice a2 n2 c2, .bool big, .int .u16 tag] w fun e w' => e = .returned (.bool true) ∧ Below w.heap.size w w' := by
  by_cases h : n0 ≤ 65536 ∧ n1 ≤ 4096 ∧ n2 ≤ 65536
  · exact main a0 n0 c0 zp a1 n1 c1 F a2 n2 c2 zt big tag w s0 s1 s2 hp ht h.1 h.2.1 h.2.2
  · refine (early_out a0 n0 c0 a1 n1 c1 a2 n2 c2 big tag w h).mono ?_
    rintro e w' ⟨rfl, hw⟩
    subst w'
    exact ⟨rfl, Below.refl _ _⟩

end Go.Proofs.Qxb6605719a.Law
