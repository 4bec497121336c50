import Derived.Test.Qxb6605719aReset
namespace Go.Proofs.Qxb6605719a.Reset2
open Go.RowKit Go.Proofs.Qxb6605719a.Base Go.Proofs.Qxb6605719a.Exif Go.Proofs.Qxb6605719a.Clone Go.Proofs.Qxb6605719a.Head Go.Proofs.Qxb6605719a.Reset

theorem hid {p : Prop} (h : p) : Hid p := h

/-- 'append(a, x)', a the first none of a row of the call's own with room: the law, with what it leaves told of the world ahead of the one-cell block. -/
theorem append_one {P : Program} (W X : World) (v : Value) (hh : X.heap = W.heap.push (.cells #[v] 5)) (hos : X.os = W.os) (htape : X.tape = W.tape) (hout : X.output = W.output)
    {ops : Array Oper} {rest : List Oper} {o : Oper} {a : Act} {Q : Exit → Act → World → Prop}
    (hg : o.guard = none) (s x : Operand) (t : TypeId) (hop : o.op = Op.call { callee := Callee.builtin Builtin.append, args := #[s, x], argTypes := #[t, t] })
    (base : Nat) (i : TypeInfo) (h1 : P.underlying t = some (.slice 5)) (h2 : P.info? 5 = some i) (h4 : i.size = 1)
    (g cap : Nat) (hs : a.eval s = .slice (some ⟨g, 0, none⟩) 0 cap) (hown : W.ownsRow base 5 1 (.slice (some ⟨g, 0, none⟩) 0 cap) 0 []) (hx : a.eval x = .slice (some ⟨W.heap.size, 0, none⟩) 1 1) (hv : v.oneCell' = true) (b1 : 1 ≤ cap)
    (hK : ∀ w', w'.ownsRow base 5 1 (.slice (some ⟨g, 0, none⟩) 1 cap) 1 [v] → (∀ (c : Addr) u, W.cell? c = some u → c.block ≠ g → w'.cell? c = some u) →
      (∀ B n c xs, W.ownsRow base 5 1 (.slice (some ⟨B, 0, none⟩) n c) n xs → B ≠ g → w'.ownsRow base 5 1 (.slice (some ⟨B, 0, none⟩) n c) n xs) → (∀ B, B ≤ W.heap.size → B ≤ g → Below B W w') →
      wpList P ops Q rest (a.put o.dst (.slice (some ⟨g, 0, none⟩) 1 cap)) w') :
    wpList P ops Q (o :: rest) a X := by
  have hold : ∀ k, k < W.heap.size → X.heap[k]? = W.heap[k]? := fun k hk => by rw [hh, Array.getElem?_push, if_neg (by omega)]
  have hsz : X.heap.size = W.heap.size + 1 := by rw [hh]; simp
  have gr0 : W.grownBy X none := ⟨hos, htape, hout, by omega, fun k hk _ => hold k hk⟩
  have hown' := hown.kept gr0 (.inr (by simp [Value.ownBlock]))
  refine wpList_append_fits X hg s x t hop base 5 i 1 h1 h2 h4 g 0 cap [] hs hown' ⟨W.heap.size, 0, none⟩ 1 1 [v] hx rfl ?_ (by intro u hu; rw [List.mem_singleton.1 hu]; exact hv) (by omega) ?_
  · intro j u hj
    match j, hj with
    | 0, hj =>
      simp at hj
      subst hj
      have hb : X.heap[W.heap.size]? = some (.cells #[v] 5 (0, 0)) := by rw [hh]; simp
      rw [Addr.add_lit, cell_of_row X _ _ _ _ _ hb]
      rfl
    | n + 1, hj => simp at hj
  · intro w' own gr
    refine hK w' (by simpa using own) (fun c u h hne => gr.cell (gr0.cell h (by simp)) (by simpa using hne)) (fun B n c xs h hne => (h.kept gr0 (.inr (by simp [Value.ownBlock]))).kept gr (.inr (by simpa [Value.ownBlock] using hne))) (fun B hB hg => ?_)
    exact ((Below.refl B W).grown gr0 hB (by intro k hk; cases hk)).grown gr (by omega) (by intro k hk; cases hk; exact hg)

theorem own_one {W : World} {base g c : Nat} {x : Value} (h : W.ownsRow base 5 1 (.slice (some ⟨g, 0, none⟩) 1 c) 1 [x]) : W.cell? ⟨g, 0, none⟩ = some x := by
  have := h.cellAt 0 (by omega)
  simpa using this

theorem kept_later {W W' : World} {base B n c : Nat} {xs : List Value} (h : W.ownsRow base 5 1 (.slice (some ⟨B, 0, none⟩) n c) n xs) (b : Below W.heap.size W W') : W'.ownsRow base 5 1 (.slice (some ⟨B, 0, none⟩) n c) n xs :=
  h.kept (row := none) ⟨b.os, b.tape, b.output, b.size, fun k hk _ => b.block k hk⟩ (.inr (by simp [Value.ownBlock]))

set_option maxRecDepth 100000 in
set_option maxHeartbeats 4000000 in
theorem main_any (ps : Option Addr) (ns cs : Nat) (r : Nat) (p0 : Option Addr) (n0 c0 : Nat) (st mk ln lf sa : Int) (ex fr : Bool) (eb ee : Int) (zs : List Int) (w : World) (hs : Src w ps ns cs zs) (q0 : Option Addr) (d0 : Nat) (Q : World → Prop) (hQ : ∀ w1, Q w1 → Below w.heap.size w w1) (hcl : Hid (Calls Try.prog 11 #[.slice p0 n0 c0] w fun e w' => e = .returned (.slice q0 n0 d0) ∧ Q w')) (g0 : ns ≤ 524288) (g1 : n0 ≤ 524288) (g3 : (r : Int) ≤ 65536) (g4 : 0 ≤ st) (g5 : st ≤ 6) (g6 : 0 ≤ ln) (g7 : ln ≤ 65536) (g8 : 0 ≤ lf) (g9 : lf ≤ 65536) (g10 : -1 ≤ sa) (g11 : sa ≤ n0) (g12 : 0 ≤ eb) (g13 : eb ≤ n0) (g14 : 0 ≤ ee) (g15 : ee ≤ n0) :
    Calls Try.prog 6 #[.slice ps ns cs, .int .i64 (r : Int), .slice p0 n0 c0, .int .i64 st, .int .u8 mk, .int .i64 ln, .int .i64 lf, .int .i64 sa, .bool ex, .bool fr, .int .i64 eb, .int .i64 ee] w fun e w' => e = .returned (.bool true) ∧ Below w.heap.size w w' := by
  have HQ : Hid (∀ w1, Q w1 → Below w.heap.size w w1) := hQ
  clear hQ
  obtain ⟨i5, hi, hz0, hz1, hz2⟩ := info_parts info5
  go_enter Try.func6, Try.ntmps6
  go_wp2_with (first
    | (go_at_call 18; refine (zz_small _ _ _ _ _ _ _ _ _ _ _ _ _ _ _ _ _ (by omega) (by omega)).mono ?_; rintro e w' ⟨rfl, hw⟩; subst w')
    | (go_at_call 11; refine (Hid.out hcl).mono ?_; rintro e w1 ⟨rfl, hq⟩; have b1 := HQ.out w1 hq; clear hq)
    | (at_make; refine make_room _ rfl (.tmp 133) (.tmp 137) 25 rfl w.heap.size 5 i5 (.int .u8 0) Try.underlying25 hi hz0 hz1 rfl _ _ _ _ ns (ns + r) rfl rfl (by omega) (by omega) (by omega) (by rw [hz2]; omega) (by unfold maxLen; omega) b1.size ?_; intro w2 own1 gr1; have b2 : Below w.heap.size w w2 := b1.grown gr1 b1.size (by intro k hk; cases hk); clear gr1)
    | (at_make; refine make_room _ rfl (.tmp 140) (.tmp 144) 25 rfl w.heap.size 5 i5 (.int .u8 0) Try.underlying25 hi hz0 hz1 rfl _ _ _ _ ns (ns + r) rfl rfl (by omega) (by omega) (by omega) (by rw [hz2]; omega) (by unfold maxLen; omega) b2.size ?_; intro w3 own2 gr2; have b3 : Below w.heap.size w w3 := b2.grown gr2 b2.size (by intro k hk; cases hk); have own3 := own1.kept gr2 (.inr (by simp [Value.ownBlock])); have lt1 : w1.heap.size < w2.heap.size := (own1.lt _ rfl).2; clear gr2 own1)
    | fail)
  have hr := hs.row
  have hl := hs.1
  have ep : Clone.part zs ns 0 = List.replicate ns (.int .u8 0) := by simp [Clone.part]
  rw [← ep] at own2 own3
  have HR : Hid (Row w ps ns (fun i => zs.getD i 0)) := hr
  clear hr hs ep
  go_loopw [27] (fun i wr => ∃ k : Nat, k ≤ ns ∧ i = .int .i64 k ∧ wr.ownsRow w.heap.size 5 1 (.slice (some ⟨w1.heap.size, 0, none⟩) ns (ns + r)) ns (Clone.part zs ns k) ∧ wr.ownsRow w.heap.size 5 1 (.slice (some ⟨w2.heap.size, 0, none⟩) ns (ns + r)) ns (Clone.part zs ns k) ∧ Below w.heap.size w wr) (fun i _ => ns - (intOf i).toNat)
  case atStart => exact ⟨0, Nat.zero_le _, rfl, own3, own2, b3⟩
  case round =>
    obtain ⟨k, hk, rfl, ow1, ow2, hb⟩ := hrel
    by_cases hlt : k < ns
    · rcases HR.out with h | ⟨b, o, hba, hc⟩
      · omega
      subst hba
      have g0 : w.cell? ⟨b, o + k, none⟩ = some (.int .u8 (zs.getD k 0)) := hc k hlt
      have hbl : b < w.heap.size := World.block_lt_of_cell? w _ g0
      have e1 : w.heap.size ≤ w1.heap.size := b1.size
      have e2 : w.heap.size ≤ w2.heap.size := b2.size
      rw [← hb.cell (w' := wr) (by exact hbl)] at g0
      obtain ⟨z, hz⟩ : ∃ z, z = zs.getD k 0 := ⟨_, rfl⟩
      rw [← hz] at g0
      have gA : wr.cell? ⟨w1.heap.size, k, none⟩ = some (.int .u8 0) := by rw [ow1.cellAt k (by omega), part_at zs ns k hl hlt]
      have fA := ow1.frozenAt k
      have st1 := ow1.stored k (.int .u8 z)
      have gC := st1.2.cell g0 (by simp; omega)
      have ow2' := ow2.kept st1.2 (.inr (by simp [Value.ownBlock]; omega))
      have gB := ow2'.cellAt k (by omega)
      rw [part_at zs ns k hl hlt] at gB
      have fB := ow2'.frozenAt k
      have st2 := ow2'.stored k (.int .u8 z)
      have k1 := st1.1.kept st2.2 (.inr (by simp [Value.ownBlock]; omega))
      have k2 := st2.1
      rw [hz, part_set zs ns k hl hlt] at k1 k2
      rw [← hz] at k1 k2
      have HS1 := hid k1
      have HS2 := hid k2
      have HB : Hid (Below w.heap.size w ((wr.setCell ⟨w1.heap.size, k, none⟩ (.int .u8 z)).setCell ⟨w2.heap.size, k, none⟩ (.int .u8 z))) := (hb.setCell e1 _).setCell e2 _
      clear k1 k2 st1 st2 ow1 ow2 ow2' hc hz own2 own3 b3 hl
      go_wp2
      go_roundw
      case rel => exact ⟨k + 1, by omega, by go_num, HS1.out, HS2.out, HB.out⟩
      case measure => simp [intOf]; omega
    · have hkn : k = ns := by omega
      subst hkn
      rw [part_all zs k hl] at ow1 ow2
      clear own2 own3 b3
      have O1 := hid ow1
      have O2 := hid ow2
      clear ow1 ow2
      go_wp2_with (first
        | (go_at_call 19; refine (newHead_any _ _ _ _ _ _ _ _ _ _ _ _ _ _ _ _).mono ?_; rintro e w4 ⟨rfl, hw⟩; subst w4)
        | fail)
      refine (reset_any wr.heap.size w1.heap.size k (k + r) _ _ _ _ _ _ _ _ _ _ _ (heap_alloc2_old _ _ _)).mono ?_
      rintro e w5 ⟨rfl, u1⟩
      have hH2 := (u1.rest (wr.heap.size + 1) (by omega)).trans (heap_alloc2_new _ _ _)
      have U1 := hid u1
      have HH2 := hid hH2
      clear u1 hH2
      go_wp2_with fail
      refine (reset_any (wr.heap.size + 1) w2.heap.size k (k + r) _ _ _ _ _ _ _ _ _ _ _ HH2.out).mono ?_
      rintro e w6 ⟨rfl, u2⟩
      have U2 := hid u2
      clear u2 HH2
      go_wp2_with fail
      refine (reset_any (wr.heap.size + 1) w2.heap.size 0 (k + r) _ _ _ _ _ _ _ _ _ _ _ U2.out.at_).mono ?_
      rintro e w7 ⟨rfl, u3⟩
      have hA := ((u3.rest wr.heap.size (by omega)).trans (U2.out.rest wr.heap.size (by omega))).trans U1.out.at_
      have hB := u3.at_
      have b7 : Below wr.heap.size wr w7 := ((((Below.refl _ _).alloc (Nat.le_refl _) _).alloc (by simp) _).trans (U1.out.below (Nat.le_refl _))).trans ((U2.out.below (by omega)).trans (u3.below (by omega)))
      have cA : w7.cell? ⟨wr.heap.size, 0, none⟩ = some (.slice (some ⟨w1.heap.size, 0, none⟩) 0 (k + r)) := by rw [cell_of_row _ _ _ _ _ _ hA]; rfl
      have cB : w7.cell? ⟨wr.heap.size + 1, 0, none⟩ = some (.slice (some ⟨w2.heap.size, 0, none⟩) 0 (k + r)) := by rw [cell_of_row _ _ _ _ _ _ hB]; rfl
      have HA := hid hA
      have HB := hid hB
      clear hA hB u3 U1 U2
      go_wp2_with fail
      refine (headStart_any _ _ _ _ _ cA).mono ?_
      rintro e w8 ⟨rfl, hw⟩
      subst w8
      go_wp2_with fail
      refine (headStart_any _ _ _ _ _ cB).mono ?_
      rintro e w8 ⟨rfl, hw⟩
      subst w8
      clear cA cB
      go_wp2_with (go_at_call 22; refine (headJpeg_any _ _ _).mono ?_; rintro e w8 ⟨rfl, hw⟩; subst w8)
      refine (fields_head wr.heap.size _ _ _ _ _ _ _ _ _ _ _ _ _ _ HA.out).mono ?_
      rintro e w8 ⟨rfl, m8, hw⟩
      subst w8
      go_wp2_with (go_at_call 22; refine (headJpeg_any _ _ _).mono ?_; rintro e w8 ⟨rfl, hw⟩; subst w8)
      refine (fields_head (wr.heap.size + 1) _ _ _ _ _ _ _ _ _ _ _ _ _ _ (by exact HB.out)).mono ?_
      rintro e w8 ⟨rfl, m9, hw⟩
      subst w8
      have hnil := fun (w : World) a n c n' c' => Lib.run_eql_slice_nil (P := Try.prog) w 25 5 a n c n' c' Try.underlying25
      have hnil2 := fun (w : World) a n c n' c' => run_neq_slice_nil_any (P := Try.prog) w 25 5 a n c n' c' Try.underlying25
      have RA : Hid (∀ m, Row (w7.drewN m) (some ⟨w1.heap.size, 0, none⟩) k (fun i => zs.getD i 0)) := fun m => Row.below (own_row0 O1.out) (below_drewN b7 m) (Nat.le_refl _)
      have RB : Hid (∀ m, Row (w7.drewN m) (some ⟨w2.heap.size, 0, none⟩) k (fun i => zs.getD i 0)) := fun m => Row.below (own_row0 O2.out) (below_drewN b7 m) (Nat.le_refl _)
      have RS : Hid (∀ m, Row (w7.drewN m) ps k (fun i => zs.getD i 0)) := fun m => Row.below (Row.below HR.out hb (Nat.le_refl _)) (below_drewN b7 m) (Nat.le_refl _)
      clear HA HB hcl HQ g3 g4 g5 g6 g7 g8 g9 g10 g11 g12 g13 g14 g15
      go_wp2_with fail
      refine (bytesEq_any _ _ _ _ _ _ (by omega) _ (RA.out _) (RS.out _)).mono ?_
      rintro e w8 ⟨rfl, m10, hw⟩
      subst w8
      go_wp2_with fail
      refine (bytesEq_any _ _ _ _ _ _ (by omega) _ (RB.out _) (RS.out _)).mono ?_
      rintro e w8 ⟨rfl, m11, hw⟩
      subst w8
      clear RA RB hnil hnil2
      have bw7 : Below w.heap.size w w7 := hb.trans (b7.mono hb.size)
      by_cases h0 : k = 0
      · subst h0
        go_wp2
        go_ret
        exact ⟨rfl, below_drewN bw7 _⟩
      · rcases HR.out with h | ⟨b, o, hba, hc⟩
        · exact absurd h h0
        subst hba
        have hkp : (0 : Int) < (k : Int) := by omega
        have g0 : w.cell? ⟨b, o, none⟩ = some (.int .u8 (zs.getD 0 0)) := hc 0 (by omega)
        have hbl : b < w.heap.size := World.block_lt_of_cell? w _ g0
        have e1 : w.heap.size ≤ w1.heap.size := b1.size
        have e2 : w.heap.size ≤ w2.heap.size := b2.size
        have gS7 : w7.cell? ⟨b, o, none⟩ = some (.int .u8 (zs.getD 0 0)) := by rw [bw7.cell (by exact hbl)]; exact g0
        generalize zs.getD 0 0 = z at gS7
        have OA := hid (kept_later (own_head O1.out) b7)
        have OB := hid (kept_later (own_head O2.out) b7)
        have sz7 := bw7.size
        have hcap : 1 ≤ k + r := by omega
        have hb1 : (⟨b, o, none⟩ : Addr).block ≠ w1.heap.size := by show b ≠ _; omega
        have hb2 : (⟨b, o, none⟩ : Addr).block ≠ w2.heap.size := by show b ≠ _; omega
        have h21 : w2.heap.size ≠ w1.heap.size := by omega
        have h12 : w1.heap.size ≠ w2.heap.size := by omega
        clear RS O1 O2 b7 hc g0 hb
        go_wp2_with (first
          | (at_builtin; refine append_one w7 _ (.int .u8 (bits BinOp.xor IntKind.u8 IntKind.u8.max z)) (by rfl) (by rfl) (by rfl) (by rfl) (by rfl) (.tmp 338) (.tmp 343) 25 (by rfl) w.heap.size i5 Try.underlying25 hi hz1 w1.heap.size (k + r) (by rfl) OA.out (by rfl) (by rfl) hcap ?_; intro w8 own8 c8 o8 b8; have gS8 := c8 _ _ gS7 hb1; have OB8 := hid (o8 _ _ _ _ OB.out h21); have bw8 := bw7.trans (b8 _ sz7 e1); have sz8 := bw8.size; have OA8 := hid own8; clear own8 c8 o8 b8)
          | (at_builtin; refine append_one w8 _ (.int .u8 (bits BinOp.xor IntKind.u8 IntKind.u8.max z)) (by rfl) (by rfl) (by rfl) (by rfl) (by rfl) (.tmp 345) (.tmp 350) 25 (by rfl) w.heap.size i5 Try.underlying25 hi hz1 w2.heap.size (k + r) (by rfl) OB8.out (by rfl) (by rfl) hcap ?_; intro w9 own9 c9 o9 b9; have gS9 := c9 _ _ gS8 hb2; have cA9 := own_one (o9 _ _ _ _ OA8.out h12); have cB9 := own_one own9; have bw9 := bw8.trans (b9 _ sz8 e2); clear own9 c9 o9 b9 OB8 OA8)
          | fail)
        go_quiet (fail)
        go_wp2
        go_ret
        exact ⟨rfl, below_drewN bw9 _⟩

theorem walk (ps : Option Addr) (ns cs : Nat) (zs : List Int) (rm : Int) (p0 : Option Addr) (n0 c0 : Nat) (ys : List Int) (st mk ln lf sa : Int) (ex fr : Bool) (eb ee : Int) (w : World) (hs : Src w ps ns cs zs) (hk : Src w p0 n0 c0 ys) :
    Calls Try.prog 6 #[.slice ps ns cs, .int .i64 rm, .slice p0 n0 c0, .int .i64 st, .int .u8 mk, .int .i64 ln, .int .i64 lf, .int .i64 sa, .bool ex, .bool fr, .int .i64 eb, .int .i64 ee] w fun e w' => e = .returned (.bool true) ∧ Below w.heap.size w w' := by
  by_cases h : ns ≤ 524288 ∧ n0 ≤ 524288 ∧ 0 ≤ rm ∧ rm ≤ 65536 ∧ 0 ≤ st ∧ st ≤ 6 ∧ 0 ≤ ln ∧ ln ≤ 65536 ∧ 0 ≤ lf ∧ lf ≤ 65536 ∧ -1 ≤ sa ∧ sa ≤ n0 ∧ 0 ≤ eb ∧ eb ≤ n0 ∧ 0 ≤ ee ∧ ee ≤ n0
  rotate_left
  · refine (early_out ps ns cs rm p0 n0 c0 st mk ln lf sa ex fr eb ee w h).mono ?_
    rintro e w' ⟨rfl, hw⟩
    subst w'
    exact ⟨rfl, Below.refl _ _⟩
  obtain ⟨g0, g1, g2, g3, g4, g5, g6, g7, g8, g9, g10, g11, g12, g13, g14, g15⟩ := h
  obtain ⟨r, rfl⟩ : ∃ r : Nat, rm = (r : Int) := ⟨rm.toNat, by omega⟩
  have key : ∃ (q0 : Option Addr) (d0 : Nat) (Q : World → Prop), (∀ w1, Q w1 → Below w.heap.size w w1) ∧ Hid (Calls Try.prog 11 #[.slice p0 n0 c0] w fun e w' => e = .returned (.slice q0 n0 d0) ∧ Q w') := by
    cases p0 with
    | none =>
      obtain ⟨rfl, rfl⟩ := hk.2.1 rfl
      exact ⟨none, 0, fun w' => w' = w, fun w1 h1 => by subst h1; exact Below.refl _ _, clone_nil w⟩
    | some ad =>
      exact ⟨some ⟨w.heap.size, 0, none⟩, n0, fun w' => w'.ownsRow w.heap.size 5 1 (.slice (some ⟨w.heap.size, 0, none⟩) n0 n0) n0 (ys.map (Value.int .u8)) ∧ Below w.heap.size w w', fun w1 h1 => h1.2, clone_some ad n0 c0 ys w (by omega) hk⟩
  obtain ⟨q0, d0, Q, hQ, hcl⟩ := key
  exact main_any ps ns cs r p0 n0 c0 st mk ln lf sa ex fr eb ee zs w hs q0 d0 Q hQ hcl g0 g1 g3 g4 g5 g6 g7 g8 g9 g10 g11 g12 g13 g14 g15

end Go.Proofs.Qxb6605719a.Reset2
