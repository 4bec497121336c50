import Derived.Test.Qxb6605719aEntryL
import Derived.Test.Qxb6605719aFields
namespace Go.Proofs.Qxb6605719a.Tiff
open Go.RowKit Go.Proofs.Qxb6605719a.Base Go.Proofs.Qxb6605719a.Exif Go.Proofs.Qxb6605719a.Bin Go.Proofs.Qxb6605719a.Fields
open Go.Proofs.Qxb6605719a.Entry (Bytes)

/-- What a reader of an entry hands back, and of the world. -/
def Out (R : Int → Int → Option Addr → Nat → Nat → Bool → World → Prop) (e : Ending) (w : World) : Prop :=
  ∃ x y p l c b, e = .returned (.tuple #[.int .u16 x, .int .u32 y, .slice p l c, .bool b]) ∧ R x y p l c b w

theorem zz_be (p : Option Addr) (N cap : Nat) (d tag : Int) (w : World) (R : Int → Int → Option Addr → Nat → Nat → Bool → World → Prop)
    (h : Hid (Calls Try.prog 31 #[.agg #[.slice p N cap, .iface 59 (.agg #[])], .int .u32 d, .int .u16 tag] w (Out R))) :
    Calls Try.prog 29 #[.slice p N cap, .int .u32 d, .int .u16 tag] w (Out R) := by
  go_enter Try.func29, Try.ntmps29
  go_wp2_with fail
  refine h.out.mono ?_
  rintro e w1 ⟨x, y, p', l, c, b, rfl, hR⟩
  have HR := hid hR
  clear hR h
  go_wp2
  exact bodyPost_ret (by simp [results, Try.results29, go_sem]) rfl ⟨x, y, p', l, c, b, rfl, HR.out⟩

theorem zz_le (p : Option Addr) (N cap : Nat) (d tag : Int) (w : World) (R : Int → Int → Option Addr → Nat → Nat → Bool → World → Prop)
    (h : Hid (Calls Try.prog 31 #[.agg #[.slice p N cap, .iface 65 (.agg #[])], .int .u32 d, .int .u16 tag] w (Out R))) :
    Calls Try.prog 30 #[.slice p N cap, .int .u32 d, .int .u16 tag] w (Out R) := by
  go_enter Try.func30, Try.ntmps30
  go_wp2_with fail
  refine h.out.mono ?_
  rintro e w1 ⟨x, y, p', l, c, b, rfl, hR⟩
  have HR := hid hR
  clear hR h
  go_wp2
  exact bodyPost_ret (by simp [results, Try.results30, go_sem]) rfl ⟨x, y, p', l, c, b, rfl, HR.out⟩

/-- Bytes of the directory as put16, put32 lay them, read at place i. -/
structure DirB (big : Bool) (f : Nat → Int) (d n : Nat) (F : Nat → Fld) : Prop where
  num : [f d, f (d + 1)] = p16 big (n : Int)
  tag : ∀ k, k < n → [f (d + 2 + 12 * k), f (d + 2 + 12 * k + 1)] = p16 big (F k).tg
  typ : ∀ k, k < n → [f (d + 2 + 12 * k + 2), f (d + 2 + 12 * k + 2 + 1)] = p16 big (F k).ty
  cnt : ∀ k, k < n → [f (d + 2 + 12 * k + 4), f (d + 2 + 12 * k + 4 + 1), f (d + 2 + 12 * k + 4 + 2), f (d + 2 + 12 * k + 4 + 3)] = p32 big (F k).ct

theorem be16_of {a b v : Int} (h : [a, b] = p16 true v) : a * 256 + b = v := by
  simp [p16] at h
  omega
theorem le16_of {a b v : Int} (h : [a, b] = p16 false v) : a + b * 256 = v := by
  simp [p16] at h
  omega
theorem be32_of {a b c d v : Int} (h : [a, b, c, d] = p32 true v) : a * 16777216 + b * 65536 + c * 256 + d = v := by
  simp [p32, p16] at h
  omega
theorem le32_of {a b c d v : Int} (h : [a, b, c, d] = p32 false v) : a + b * 256 + c * 65536 + d * 16777216 = v := by
  simp [p32, p16] at h
  omega

/-- What reading tag gives. -/
def Got (g d n : Nat) (F : Nat → Fld) (tag : Int) (w : World) (x y : Int) (p : Option Addr) (l : Nat) (_c : Nat) (b : Bool) (w' : World) : Prop :=
  Below w.heap.size w w' ∧
    ((x = 0 ∧ y = 0 ∧ p = none ∧ l = 0 ∧ _c = 0 ∧ b = false ∧ ∀ k, k < n → (F k).tg ≠ tag) ∨
     ∃ j, j < n ∧ (F j).tg = tag ∧ (∀ k, k < j → (F k).tg ≠ tag) ∧ x = (F j).ty ∧ y = (F j).ct ∧ p = some ⟨g, d + 2 + 12 * j + 8, none⟩ ∧ l = 4 ∧ b = true)

theorem entry_any (big : Bool) (g N cap d n : Nat) (F : Nat → Fld) (tag : Int) (f : Nat → Int) (w : World) (hB : Bytes w g N f) (hN : N ≤ 9000000) (hcap : N ≤ cap) (hcm : cap ≤ 9223372036854775807) (hd : d + 2 + 12 * n ≤ N) (hn : n ≤ 4096)
    (hD : DirB big f d n F) :
    Calls Try.prog 26 #[.slice (some ⟨g, 0, none⟩) N cap, .bool big, .int .u32 (d : Int), .int .u16 tag] w (Out (Got g d n F tag w)) := by
  cases big
  · have h := EntryL.entry_le g N cap d tag f (fun k => (F k).tg) (fun k => (F k).ty) (fun k => (F k).ct) n w hB hN hcap hcm hd hn (le16_of hD.num)
      ⟨fun k hk => le16_of (hD.tag k hk), fun k hk => le16_of (hD.typ k hk), fun k hk => le32_of (hD.cnt k hk)⟩
    have h2 : Calls Try.prog 31 #[.agg #[.slice (some ⟨g, 0, none⟩) N cap, .iface 65 (.agg #[])], .int .u32 (d : Int), .int .u16 tag] w (Out (Got g d n F tag w)) := by
      refine h.mono ?_
      rintro e w' ⟨hb, ⟨rfl, hno⟩ | ⟨j, c, hj, ht, hno, rfl⟩⟩
      · exact ⟨_, _, _, _, _, _, rfl, hb, .inl ⟨rfl, rfl, rfl, rfl, rfl, rfl, hno⟩⟩
      · exact ⟨_, _, _, _, _, _, rfl, hb, .inr ⟨j, hj, ht, hno, rfl, rfl, rfl, rfl, rfl⟩⟩
    have H3 := hid (zz_le _ _ _ _ _ _ _ (hid h2))
    clear h h2 hD hB
    go_enter Try.func26, Try.ntmps26
    go_wp2_with fail
    refine H3.out.mono ?_
    rintro e w1 ⟨x, y, p', l, c, b, rfl, hR⟩
    have HR := hid hR
    clear hR H3
    go_wp2
    exact bodyPost_ret (by simp [results, Try.results26, go_sem]) rfl ⟨x, y, p', l, c, b, rfl, HR.out⟩
  · have h := Entry.entry_be g N cap d tag f (fun k => (F k).tg) (fun k => (F k).ty) (fun k => (F k).ct) n w hB hN hcap hcm hd hn (be16_of hD.num)
      ⟨fun k hk => be16_of (hD.tag k hk), fun k hk => be16_of (hD.typ k hk), fun k hk => be32_of (hD.cnt k hk)⟩
    have h2 : Calls Try.prog 31 #[.agg #[.slice (some ⟨g, 0, none⟩) N cap, .iface 59 (.agg #[])], .int .u32 (d : Int), .int .u16 tag] w (Out (Got g d n F tag w)) := by
      refine h.mono ?_
      rintro e w' ⟨hb, ⟨rfl, hno⟩ | ⟨j, c, hj, ht, hno, rfl⟩⟩
      · exact ⟨_, _, _, _, _, _, rfl, hb, .inl ⟨rfl, rfl, rfl, rfl, rfl, rfl, hno⟩⟩
      · exact ⟨_, _, _, _, _, _, rfl, hb, .inr ⟨j, hj, ht, hno, rfl, rfl, rfl, rfl, rfl⟩⟩
    have H3 := hid (zz_be _ _ _ _ _ _ _ (hid h2))
    clear h h2 hD hB
    go_enter Try.func26, Try.ntmps26
    go_wp2_with fail
    refine H3.out.mono ?_
    rintro e w1 ⟨x, y, p', l, c, b, rfl, hR⟩
    have HR := hid hR
    clear hR H3
    go_wp2
    exact bodyPost_ret (by simp [results, Try.results26, go_sem]) rfl ⟨x, y, p', l, c, b, rfl, HR.out⟩

end Go.Proofs.Qxb6605719a.Tiff
