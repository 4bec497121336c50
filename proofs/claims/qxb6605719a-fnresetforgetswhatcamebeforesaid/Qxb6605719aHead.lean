import Derived.Test.Qxb6605719aClone
import Derived.Deep.MidRow
namespace Go.Proofs.Qxb6605719a.Head
open Go.RowKit Go.Proofs.Qxb6605719a.Base Go.Proofs.Qxb6605719a.Exif Go.Proofs.Qxb6605719a.Clone

/-- 'make([]byte, n, c)', n and c variables. -/
theorem make_room {P : Program} (w : World) {ops : Array Oper} {rest : List Oper} {o : Oper} {a : Act} {Q : Exit → Act → World → Prop}
    (hg : o.guard = none) (l c : Operand) (t : TypeId) (hop : o.op = Op.makeSlice t l c)
    (base : Nat) (e : TypeId) (i : TypeInfo) (z : Value) (h1 : P.underlying t = some (.slice e)) (h2 : P.info? e = some i) (h3 : i.zero = some z) (h4 : i.size = 1) (hz : z.cells = #[z])
    (kl kc : IntKind) (L C : Int) (n m : Nat) (hl : a.eval l = .int kl L) (hc : a.eval c = .int kc C) (hL : L = (n : Int)) (hC : C = (m : Int)) (hnm : n ≤ m) (b2 : i.bytes * m ≤ 281474976710656) (b3 : m ≤ maxLen) (b4 : base ≤ w.heap.size)
    (hK : ∀ w', w'.ownsRow base e 1 (.slice (some ⟨w.heap.size, 0, none⟩) n m) n (List.replicate n z) → w.grownBy w' none → wpList P ops Q rest (a.put o.dst (.slice (some ⟨w.heap.size, 0, none⟩) n m)) w') :
    wpList P ops Q (o :: rest) a w := by
  refine wpList_plain hg fun K hK' => ?_
  subst hL
  subst hC
  have h63' : (m : Int) ≤ 9223372036854775807 := by
    have h := b3
    simp [maxLen] at h
    omega
  have hb' : (i.bytes : Int) * (m : Int) ≤ 281474976710656 := by
    have h : ((i.bytes * m : Nat) : Int) ≤ 281474976710656 := by omega
    rwa [Int.natCast_mul] at h
  have hr := run_make (P := P) w t e i z h1 h2 h3 kl kc n m (by omega) (by omega) hb' h63'
  simp only [Int.toNat_natCast, h4, hz, Nat.mul_one] at hr
  unfold Oper.wp
  simp [execOp, hop, hl, hc, hr, Result.andThen]
  refine hK' _ _ (hK _ ⟨by simp, .inr ⟨w.heap.size, m, madeCells #[z] m, rfl, b4, heap_alloc_new w _, hnm, b3, by simp [size_madeCells], ?_⟩⟩ (World.grownBy_alloc w _ none))
  rw [toList_madeCells_one]
  simp [List.take_replicate, Nat.min_eq_left hnm]

theorem newHead_any (q0 : Option Addr) (m0 d0 : Nat) (p0 : Option Addr) (n0 c0 : Nat) (v1 v2 v3 v4 v5 : Int) (v6 v7 : Bool) (v8 v9 : Int) (w : World) :
    Calls Try.prog 19 #[.slice q0 m0 d0, .slice p0 n0 c0, .int .i64 v1, .int .u8 v2, .int .i64 v3, .int .i64 v4, .int .i64 v5, .bool v6, .bool v7, .int .i64 v8, .int .i64 v9] w fun e w' =>
      e = .returned (.pointer (some ⟨w.heap.size, 0, none⟩)) ∧ w' = w.alloc (.cells #[.slice q0 m0 d0, .slice p0 n0 c0, .int .i64 v1, .int .u8 v2, .int .i64 v3, .int .i64 v4, .int .i64 v5, .bool v6, .bool v7, .int .i64 v8, .int .i64 v9] 56) := by
  go_enter Try.func19, Try.ntmps19
  go_wp2
  go_ret
  exact ⟨rfl, rfl⟩

theorem headJpeg_any (b o : Nat) (w : World) : Calls Try.prog 22 #[.pointer (some ⟨b, o, none⟩)] w fun e w' => e = .returned (.pointer (some ⟨b, o + 1, none⟩)) ∧ w' = w := by
  go_enter Try.func22, Try.ntmps22
  go_wp2
  go_ret
  exact ⟨rfl, rfl⟩

theorem headStart_any (b : Nat) (v0 : Option Addr) (n0 c0 : Nat) (w : World) (h : w.cell? ⟨b, 0, none⟩ = some (.slice v0 n0 c0)) : Calls Try.prog 21 #[.pointer (some ⟨b, 0, none⟩)] w fun e w' => e = .returned (.slice v0 n0 c0) ∧ w' = w := by
  go_enter Try.func21, Try.ntmps21
  go_wp2
  go_ret
  exact ⟨rfl, rfl⟩

/-- One block has been written anew; all else is as it was. -/
structure Upd (b : Nat) (ob : Obj) (w w' : World) : Prop where
  os : w'.os = w.os
  tape : w'.tape = w.tape
  output : w'.output = w.output
  size : w'.heap.size = w.heap.size
  at_ : w'.heap[b]? = some ob
  rest : ∀ k, k ≠ b → w'.heap[k]? = w.heap[k]?

def setAll (cs : Array Value) : Nat → List Value → Array Value
  | _, [] => cs
  | o, v :: r => setAll (cs.setIfInBounds o v) (o + 1) r

theorem setCells_upd (b t : Nat) : ∀ (vs : List Value) (o : Nat) (w : World) (cs : Array Value), w.heap[b]? = some (.cells cs t (0, 0)) → Upd b (.cells (setAll cs o vs) t (0, 0)) w (w.setCells b o vs)
  | [], _, w, _, h => ⟨rfl, rfl, rfl, rfl, h, fun _ _ => rfl⟩
  | v :: r, o, w, cs, h => by
    have ih := setCells_upd b t r (o + 1) (w.setCell ⟨b, o, none⟩ v) (cs.setIfInBounds o v) (heap_setCell_same w b o cs t v h)
    exact ⟨ih.os, ih.tape, ih.output, by rw [World.setCells, ih.size]; simp, ih.at_, fun k hk => by rw [World.setCells, ih.rest k hk]; exact heap_setCell_other w ⟨b, o, none⟩ k v hk⟩

theorem size56 : (Try.prog.info? 56).map (·.size) = some 11 := by kernel_rfl

theorem reset_any (b B m c : Nat) (x1 x2 x3 x4 x5 x6 x7 x8 x9 x10 : Value) (w : World) (h : w.heap[b]? = some (.cells #[.slice (some ⟨B, 0, none⟩) m c, x1, x2, x3, x4, x5, x6, x7, x8, x9, x10] 56 (0, 0))) :
    Calls Try.prog 20 #[.pointer (some ⟨b, 0, none⟩)] w fun e w' => e = .returned (.tuple #[]) ∧
      Upd b (.cells #[.slice (some ⟨B, 0, none⟩) 0 c, .slice none 0 0, .int .i64 0, .int .u8 0, .int .i64 0, .int .i64 0, .int .i64 0, .bool false, .bool false, .int .i64 0, .int .i64 0] 56 (0, 0)) w w' := by
  have h0 : w.cell? ⟨b, 0, none⟩ = some (.slice (some ⟨B, 0, none⟩) m c) := by simp [World.cell?, h]
  have ht : w.there b 0 11 := by
    intro j hj
    refine ⟨?_, frozen_of_row w b _ _ _ h⟩
    rw [cell_of_row w b _ _ _ _ h]
    simp
    omega
  have HU : Hid (∀ v0, Upd b (.cells #[v0, .slice none 0 0, .int .i64 0, .int .u8 0, .int .i64 0, .int .i64 0, .int .i64 0, .bool false, .bool false, .int .i64 0, .int .i64 0] 56 (0, 0)) w (w.setCells b 0 [v0, .slice none 0 0, .int .i64 0, .int .u8 0, .int .i64 0, .int .i64 0, .int .i64 0, .bool false, .bool false, .int .i64 0, .int .i64 0])) := by
    intro v0
    have e := setCells_upd b 56 [v0, .slice none 0 0, .int .i64 0, .int .u8 0, .int .i64 0, .int .i64 0, .int .i64 0, .bool false, .bool false, .int .i64 0, .int .i64 0] 0 w _ h
    simpa [setAll] using e
  have HT : Hid (w.there b 0 11) := ht
  clear h ht
  go_enter Try.func20, Try.ntmps20
  go_wp2_with (first
    | (refine wpList_store_mid rfl 56 (.tmp 9) (.tmp 8) rfl b 0 #[.slice (some ⟨B, 0, none⟩) 0 c, .slice none 0 0, .int .i64 0, .int .u8 0, .int .i64 0, .int .i64 0, .int .i64 0, .bool false, .bool false, .int .i64 0, .int .i64 0] rfl rfl HT.out size56 (by simp [Value.oneCell']) ?_)
    | fail)
  go_end0
  exact ⟨rfl, HU.out _⟩

theorem Upd.below {b B : Nat} {ob : Obj} {w w' : World} (h : Upd b ob w w') (hB : B ≤ b) : Below B w w' :=
  ⟨h.os, h.tape, h.output, by rw [h.size]; exact Nat.le_refl _, fun k hk => h.rest k (by omega)⟩

/-- A jpegHeader inside a Head: its ten cells. -/
theorem fields_head (b : Nat) (x0 : Value) (v0 : Option Addr) (n0 c0 : Nat) (v1 v2 v3 v4 v5 : Int) (v6 v7 : Bool) (v8 v9 : Int) (w : World)
    (h : w.heap[b]? = some (.cells #[x0, .slice v0 n0 c0, .int .i64 v1, .int .u8 v2, .int .i64 v3, .int .i64 v4, .int .i64 v5, .bool v6, .bool v7, .int .i64 v8, .int .i64 v9] 56 (0, 0))) :
    Calls Try.prog 14 #[.pointer (some ⟨b, 0 + 1, none⟩)] w fun e w' => e = .returned (.tuple #[.slice v0 n0 c0, .int .i64 v1, .int .u8 v2, .int .i64 v3, .int .i64 v4, .int .i64 v5, .bool v6, .bool v7, .int .i64 v8, .int .i64 v9]) ∧ ∃ m, w' = w.drewN m := by
  refine fields_any b (0 + 1) v0 n0 c0 v1 v2 v3 v4 v5 v6 v7 v8 v9 w ?_ ?_ ?_ ?_ ?_ ?_ ?_ ?_ ?_ ?_
  iterate 10 (rw [cell_of_row w b _ _ _ _ h]; rfl)

theorem own_row0 {w : World} {base B N c : Nat} {z : List Int} (h : w.ownsRow base 5 1 (.slice (some ⟨B, 0, none⟩) N c) N (z.map (Value.int .u8))) :
    Row w (some ⟨B, 0, none⟩) N (fun i => z.getD i 0) := by
  refine .inr ⟨B, 0, rfl, fun i hi => ?_⟩
  have hl := h.1
  simp at hl
  rw [Nat.zero_add, h.cellAt i (by omega)]
  simp [List.getD, show i < z.length by omega]

/-- Of what is owned the first none. -/
theorem own_head {w : World} {base B N c : Nat} {xs : List Value} (h : w.ownsRow base 5 1 (.slice (some ⟨B, 0, none⟩) N c) N xs) : w.ownsRow base 5 1 (.slice (some ⟨B, 0, none⟩) 0 c) 0 [] := by
  obtain ⟨h1, h2⟩ := h
  refine ⟨by simp, ?_⟩
  rcases h2 with ⟨h', _⟩ | ⟨g, cap, cur, h', hb, hg, hn, hm, hs, _⟩
  · simp at h'
  · simp only [Value.slice.injEq, Option.some.injEq, Addr.mk.injEq, and_true, true_and] at h'
    obtain ⟨rfl, rfl⟩ := h'
    exact .inr ⟨B, c, cur, rfl, hb, hg, Nat.zero_le _, hm, hs, by simp⟩

end Go.Proofs.Qxb6605719a.Head
