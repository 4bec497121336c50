import Derived.Test.Qxb6605719aProg
import Derived.Deep.Slices
import Derived.ProofKit
import Derived.WalkKit
namespace Go.Proofs.Qxb6605719a.Fields
open Go.RowKit

/-- One entry as the row's data give it: tag, type, count, value. -/
structure Fld where
  tg : Int
  ty : Int
  ct : Int
  vl : Int

/-- A slice of TiffFields that came in: its entries, four cells each. -/
def Flds (w : World) (a : Option Addr) (n c : Nat) (F : Nat → Fld) : Prop :=
  (a = none → n = 0 ∧ c = 0) ∧ (∀ i, i < n → 0 ≤ (F i).tg ∧ (F i).tg ≤ 65535 ∧ 0 ≤ (F i).ty ∧ (F i).ty ≤ 65535 ∧ 0 ≤ (F i).ct ∧ (F i).ct ≤ 4294967295 ∧ 0 ≤ (F i).vl ∧ (F i).vl ≤ 4294967295) ∧
  (n = 0 ∨ ∃ b o, a = some ⟨b, o, none⟩ ∧ ∀ i, i < n → w.cell? ⟨b, o + i * 4, none⟩ = some (.int .u16 (F i).tg) ∧ w.cell? ⟨b, o + i * 4 + 1, none⟩ = some (.int .u16 (F i).ty) ∧
    w.cell? ⟨b, o + i * 4 + 2, none⟩ = some (.int .u32 (F i).ct) ∧ w.cell? ⟨b, o + i * 4 + 3, none⟩ = some (.int .u32 (F i).vl))

theorem cells47 : Try.prog.cellsOf 47 = 4 := by kernel_rfl
theorem cells42 : Try.prog.cellsOf 42 = 1 := by kernel_rfl
theorem cells45 : Try.prog.cellsOf 45 = 1 := by kernel_rfl

theorem bounds16 {n : Int} (h : (Lit.int .u16 n).wf = true) : 0 ≤ n ∧ n ≤ 65535 := by
  simp [Lit.wf, IntKind.min, IntKind.max, IntKind.bits, IntKind.signed] at h
  omega
theorem bounds32 {n : Int} (h : (Lit.int .u32 n).wf = true) : 0 ≤ n ∧ n ≤ 4294967295 := by
  simp [Lit.wf, IntKind.min, IntKind.max, IntKind.bits, IntKind.signed] at h
  omega

theorem add_lit' (b o i j : Nat) : ((⟨b, o, none⟩ : Addr).add i).add j = ⟨b, o + i + j, none⟩ := by
  rw [Addr.add_lit, Addr.add_lit]

theorem open_flds {H : Type} {enc : TypeId × Value → H} {w : World} {base : Nat} {spare : Nat → Bool} {held : Bool} {fuel : Nat} {a : Option Addr} {len cap : Nat} {x : DataW H × List MemPlace}
    (h : DataW.trod enc Try.prog w base spare held fuel 41 [.slice a len cap] = some x) : ∃ F, len ≤ maxLen ∧ Flds w a len cap F := by
  rcases Go.Deep.open_slice Try.underlying41 h with ⟨hcs, _⟩ | ⟨ad, l, c, m, n, D, Pl, hcs, _, hl, hm, hmm, _, hx⟩
  · simp at hcs
    obtain ⟨rfl, rfl, rfl⟩ := hcs
    exact ⟨fun _ => ⟨0, 0, 0, 0⟩, Nat.zero_le _, fun _ => ⟨rfl, rfl⟩, fun i hi => absurd hi (Nat.not_lt_zero _), .inl rfl⟩
  · simp at hcs
    obtain ⟨rfl, rfl, rfl⟩ := hcs
    have hlm : len ≤ m := by rw [hmm]; split <;> omega
    have each : ∀ i, i < m → ∃ q : Fld, (0 ≤ q.tg ∧ q.tg ≤ 65535 ∧ 0 ≤ q.ty ∧ q.ty ≤ 65535 ∧ 0 ≤ q.ct ∧ q.ct ≤ 4294967295 ∧ 0 ≤ q.vl ∧ q.vl ≤ 4294967295) ∧
        w.cell? ((ad.add (i * 4)).add 0) = some (.int .u16 q.tg) ∧ w.cell? ((ad.add (i * 4)).add 1) = some (.int .u16 q.ty) ∧ w.cell? ((ad.add (i * 4)).add 2) = some (.int .u32 q.ct) ∧ w.cell? ((ad.add (i * 4)).add 3) = some (.int .u32 q.vl) := by
      intro i hi
      obtain ⟨cs', h1, h2⟩ := hx i hi
      rw [cells47] at h1
      obtain ⟨_, hlen, hcell⟩ := World.cells?_some h1
      obtain ⟨xs, k, _, _, _, hxl, hf⟩ := DataW.trod_struct Try.underlying47 h2
      match xs, hxl, cs', hlen with
      | [y0, y1, y2, y3], _, [v0, v1, v2, v3], _ =>
        have g0 := hf 0 _ rfl
        have g1 := hf 1 _ rfl
        have g2 := hf 2 _ rfl
        have g3 := hf 3 _ rfl
        simp [cells42, cells45] at g0 g1 g2 g3
        obtain ⟨n0, e0, _, w0⟩ := DataW.trod_int Try.underlying42 g0
        obtain ⟨n1, e1, _, w1⟩ := DataW.trod_int Try.underlying42 g1
        obtain ⟨n2, e2, _, w2⟩ := DataW.trod_int Try.underlying45 g2
        obtain ⟨n3, e3, _, w3⟩ := DataW.trod_int Try.underlying45 g3
        simp at e0 e1 e2 e3
        subst e0 e1 e2 e3
        have b0 := bounds16 w0
        have b1 := bounds16 w1
        have b2 := bounds32 w2
        have b3 := bounds32 w3
        exact ⟨⟨n0, n1, n2, n3⟩, ⟨b0.1, b0.2, b1.1, b1.2, b2.1, b2.2, b3.1, b3.2⟩, hcell 0 (by omega), hcell 1 (by omega), hcell 2 (by omega), hcell 3 (by omega)⟩
    have inh : Inhabited Fld := ⟨⟨0, 0, 0, 0⟩⟩
    obtain ⟨F, hF⟩ := Go.Deep.choose_lt each
    refine ⟨F, by omega, (fun h => by cases h), fun i hi => (hF i (by omega)).1, ?_⟩
    by_cases hz : len = 0
    · exact .inl hz
    · obtain ⟨b, o, sp⟩ := ad
      have hsp : sp = none := by
        have := World.cell?_spot (hF 0 (by omega)).2.1
        simpa [Addr.add] using this
      subst hsp
      refine .inr ⟨b, o, rfl, fun i hi => ?_⟩
      obtain ⟨_, c0, c1, c2, c3⟩ := hF i (by omega)
      rw [add_lit'] at c0 c1 c2 c3
      exact ⟨c0, c1, c2, c3⟩

end Go.Proofs.Qxb6605719a.Fields
