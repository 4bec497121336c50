import Derived.Test.Qxb6605719aTiff
import Derived.Laws.AppendOwnNone
namespace Go.Proofs.Qxb6605719a.Dir
open Go.RowKit Go.Proofs.Qxb6605719a.Base Go.Proofs.Qxb6605719a.Exif Go.Proofs.Qxb6605719a.Bin Go.Proofs.Qxb6605719a.Fields Go.Proofs.Qxb6605719a.Tiff
open Go.Proofs.Qxb6605719a.Entry (Bytes)

/-- One entry's twelve bytes. -/
def ent (big : Bool) (x : Fld) : List Int := p16 big x.tg ++ p16 big x.ty ++ p32 big x.ct ++ p32 big x.vl
def dirs (big : Bool) (F : Nat → Fld) : Nat → List Int
  | 0 => []
  | k + 1 => dirs big F k ++ ent big (F k)
/-- All that is written. -/
def whole (big : Bool) (F : Nat → Fld) (pad : List Int) (n : Nat) (tail : List Int) : List Int := pad ++ p16 big (n : Int) ++ dirs big F n ++ tail

theorem p16_len (big : Bool) (v : Int) : (p16 big v).length = 2 := by cases big <;> rfl
theorem p32_len (big : Bool) (v : Int) : (p32 big v).length = 4 := by cases big <;> rfl
theorem ent_len (big : Bool) (x : Fld) : (ent big x).length = 12 := by cases big <;> rfl
theorem dirs_len (big : Bool) (F : Nat → Fld) (k : Nat) : (dirs big F k).length = 12 * k := by
  induction k with
  | zero => rfl
  | succ k ih => rw [dirs, List.length_append, ih, ent_len]; omega

theorem p16_byt (big : Bool) (v : Int) (h0 : 0 ≤ v) (h1 : v ≤ 65535) : ∀ x ∈ p16 big v, byt x := by
  intro x hx
  unfold byt
  cases big <;> simp [p16] at hx <;> rcases hx with rfl | rfl <;> omega
theorem p32_byt (big : Bool) (v : Int) (h0 : 0 ≤ v) (h1 : v ≤ 4294967295) : ∀ x ∈ p32 big v, byt x := by
  intro x hx
  cases big
  · rcases List.mem_append.1 hx with h | h
    · exact p16_byt false _ (by omega) (by omega) x h
    · exact p16_byt false _ (by omega) (by omega) x h
  · rcases List.mem_append.1 hx with h | h
    · exact p16_byt true _ (by omega) (by omega) x h
    · exact p16_byt true _ (by omega) (by omega) x h

def FOk (F : Nat → Fld) (n : Nat) : Prop := ∀ i, i < n → 0 ≤ (F i).tg ∧ (F i).tg ≤ 65535 ∧ 0 ≤ (F i).ty ∧ (F i).ty ≤ 65535 ∧ 0 ≤ (F i).ct ∧ (F i).ct ≤ 4294967295 ∧ 0 ≤ (F i).vl ∧ (F i).vl ≤ 4294967295

theorem ent_byt (big : Bool) (x : Fld) (h : 0 ≤ x.tg ∧ x.tg ≤ 65535 ∧ 0 ≤ x.ty ∧ x.ty ≤ 65535 ∧ 0 ≤ x.ct ∧ x.ct ≤ 4294967295 ∧ 0 ≤ x.vl ∧ x.vl ≤ 4294967295) : ∀ y ∈ ent big x, byt y := by
  obtain ⟨h1, h2, h3, h4, h5, h6, h7, h8⟩ := h
  intro y hy
  rcases List.mem_append.1 hy with hy | hy
  · rcases List.mem_append.1 hy with hy | hy
    · rcases List.mem_append.1 hy with hy | hy
      · exact p16_byt big _ h1 h2 y hy
      · exact p16_byt big _ h3 h4 y hy
    · exact p32_byt big _ h5 h6 y hy
  · exact p32_byt big _ h7 h8 y hy

theorem dirs_byt (big : Bool) (F : Nat → Fld) (n : Nat) (hF : FOk F n) (k : Nat) (hk : k ≤ n) : ∀ y ∈ dirs big F k, byt y := by
  induction k with
  | zero => intro y hy; cases hy
  | succ k ih =>
    intro y hy
    rw [dirs] at hy
    rcases List.mem_append.1 hy with hy | hy
    · exact ih (by omega) y hy
    · exact ent_byt big _ (hF k (by omega)) y hy

theorem whole_byt (big : Bool) (F : Nat → Fld) (pad : List Int) (n : Nat) (tail : List Int) (hF : FOk F n) (hn : n ≤ 4096) (hp : ∀ x ∈ pad, byt x) (ht : ∀ x ∈ tail, byt x) : ∀ x ∈ whole big F pad n tail, byt x := by
  intro y hy
  rcases List.mem_append.1 hy with hy | hy
  · rcases List.mem_append.1 hy with hy | hy
    · rcases List.mem_append.1 hy with hy | hy
      · exact hp y hy
      · exact p16_byt big _ (by omega) (by omega) y hy
    · exact dirs_byt big F n hF n (Nat.le_refl _) y hy
  · exact ht y hy

theorem whole_len (big : Bool) (F : Nat → Fld) (pad : List Int) (n : Nat) (tail : List Int) : (whole big F pad n tail).length = pad.length + 2 + 12 * n + tail.length := by
  unfold whole
  rw [List.length_append, List.length_append, List.length_append, p16_len, dirs_len]

theorem dirs_split (big : Bool) (F : Nat → Fld) (k d : Nat) : ∃ R, dirs big F (k + 1 + d) = dirs big F k ++ ent big (F k) ++ R := by
  induction d with
  | zero => exact ⟨[], by simp [dirs]⟩
  | succ d ih =>
    obtain ⟨R, e⟩ := ih
    refine ⟨R ++ ent big (F (k + 1 + d)), ?_⟩
    show dirs big F (k + 1 + d) ++ ent big (F (k + 1 + d)) = _
    rw [e, List.append_assoc]

theorem mid (A M R : List Int) (i : Nat) (hi : i < M.length) : (A ++ M ++ R).getD (A.length + i) 0 = M.getD i 0 := by
  simp only [List.getD]
  rw [List.append_assoc, List.getElem?_append_right (by omega), Nat.add_sub_cancel_left, List.getElem?_append_left hi]

theorem at_ent (big : Bool) (F : Nat → Fld) (pad : List Int) (n : Nat) (tail : List Int) (k : Nat) (hk : k < n) (i : Nat) (hi : i < 12) : (whole big F pad n tail).getD (pad.length + 2 + 12 * k + i) 0 = (ent big (F k)).getD i 0 := by
  obtain ⟨R, e⟩ := dirs_split big F k (n - (k + 1))
  rw [show k + 1 + (n - (k + 1)) = n by omega] at e
  have e2 : whole big F pad n tail = (pad ++ p16 big (n : Int) ++ dirs big F k) ++ ent big (F k) ++ (R ++ tail) := by
    unfold whole
    rw [e]
    simp only [List.append_assoc]
  have h := mid (pad ++ p16 big (n : Int) ++ dirs big F k) (ent big (F k)) (R ++ tail) i (by rw [ent_len]; exact hi)
  rw [← e2, List.length_append, List.length_append, p16_len, dirs_len] at h
  exact h

theorem at_num (big : Bool) (F : Nat → Fld) (pad : List Int) (n : Nat) (tail : List Int) (i : Nat) (hi : i < 2) : (whole big F pad n tail).getD (pad.length + i) 0 = (p16 big (n : Int)).getD i 0 := by
  have e2 : whole big F pad n tail = pad ++ p16 big (n : Int) ++ (dirs big F n ++ tail) := by
    unfold whole
    simp only [List.append_assoc]
  rw [e2]
  exact mid pad (p16 big (n : Int)) _ i (by rw [p16_len]; exact hi)

theorem dirB (big : Bool) (F : Nat → Fld) (pad : List Int) (n : Nat) (tail : List Int) : DirB big (fun i => (whole big F pad n tail).getD i 0) pad.length n F := by
  refine ⟨?_, fun k hk => ?_, fun k hk => ?_, fun k hk => ?_⟩
  · have h0 := at_num big F pad n tail 0 (by omega)
    have h1 := at_num big F pad n tail 1 (by omega)
    simp only [Nat.add_zero] at h0
    rw [h0, h1]
    cases big <;> rfl
  · have h0 := at_ent big F pad n tail k hk 0 (by omega)
    have h1 := at_ent big F pad n tail k hk 1 (by omega)
    simp only [Nat.add_zero] at h0
    rw [h0, h1]
    cases big <;> rfl
  · have h0 := at_ent big F pad n tail k hk 2 (by omega)
    have h1 := at_ent big F pad n tail k hk 3 (by omega)
    show [_, (whole big F pad n tail).getD (pad.length + 2 + 12 * k + 3) 0] = _
    rw [h0, h1]
    cases big <;> rfl
  · have h0 := at_ent big F pad n tail k hk 4 (by omega)
    have h1 := at_ent big F pad n tail k hk 5 (by omega)
    have h2 := at_ent big F pad n tail k hk 6 (by omega)
    have h3 := at_ent big F pad n tail k hk 7 (by omega)
    show [_, (whole big F pad n tail).getD (pad.length + 2 + 12 * k + 5) 0, (whole big F pad n tail).getD (pad.length + 2 + 12 * k + 6) 0, (whole big F pad n tail).getD (pad.length + 2 + 12 * k + 7) 0] = _
    rw [h0, h1, h2, h3]
    cases big <;> rfl

theorem at_val (big : Bool) (F : Nat → Fld) (pad : List Int) (n : Nat) (tail : List Int) (k : Nat) (hk : k < n) (i : Nat) (hi : i < 4) : (whole big F pad n tail).getD (pad.length + 2 + 12 * k + 8 + i) 0 = (p32 big (F k).vl).getD i 0 := by
  have h := at_ent big F pad n tail k hk (8 + i) (by omega)
  rw [show pad.length + 2 + 12 * k + 8 + i = pad.length + 2 + 12 * k + (8 + i) by omega, h]
  match i, hi with
  | 0, _ => cases big <;> rfl
  | 1, _ => cases big <;> rfl
  | 2, _ => cases big <;> rfl
  | 3, _ => cases big <;> rfl

/-- 'append(b, src...)', b the call's own, src nil or not. -/
theorem append_opt {P : Program} (w : World) {ops : Array Oper} {rest : List Oper} {o : Oper} {a : Act} {Q : Exit → Act → World → Prop} (hgd : o.guard = none) (s x : Operand) (t : TypeId)
    (ho : o.op = .call { callee := .builtin .append, args := #[s, x], argTypes := #[t, t] })
    (base : Nat) (i : TypeInfo) (ht : P.underlying t = some (.slice 5)) (hi : P.info? 5 = some i) (hz : i.zero = some (.int .u8 0)) (hsize : i.size = 1) (hby : i.bytes = 1)
    (v : Value) (n : Nat) (xs : List Value) (hs : a.eval s = v) (hown : w.ownsRow base 5 1 v n xs) (ao : Option Addr) (m c : Nat) (zs : List Int) (hx : a.eval x = .slice ao m c) (hsrc : Src w ao m c zs)
    (hn : n + m ≤ 9000000) (hbase : base ≤ w.heap.size)
    (h : ∀ v' w', w'.ownsRow base 5 1 v' (n + m) (xs ++ zs.map (Value.int .u8)) → Below base w w' → wpList P ops Q rest (a.put o.dst v') w') : wpList P ops Q (o :: rest) a w := by
  obtain ⟨hl, hnone, hc⟩ := hsrc
  cases ao with
  | none =>
    obtain ⟨rfl, rfl⟩ := hnone rfl
    have hz0 : zs = [] := List.eq_nil_of_length_eq_zero hl
    subst hz0
    exact wpList_append_own_none hgd s x t ho base 5 i 1 ht hi v n xs hs hown hx (h v w (by simpa using hown) (Below.refl _ _))
  | some ad =>
    refine wpList_append_own w hgd s x t ho base 5 i (.int .u8 0) 1 1 ht hi hz hsize hby rfl (by decide) v n xs hs hown ad m c (zs.map (Value.int .u8)) hx (by simp [hl]) (hc ad rfl) (ints_oneCell _ _) (by unfold maxLen; omega) (by omega) hbase ?_
    intro v' w' own gr _
    exact h v' w' own ((Below.refl base w).grown gr hbase (fun k hk => (hown.lt k hk).1))

end Go.Proofs.Qxb6605719a.Dir
