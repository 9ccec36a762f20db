import Derived.Test.Qxb6617312aMark
import Derived.Lib.Bytes
namespace Go.Proofs.Qxb6617312a.Dig
open Go.ChangeShapes Go.WideShapes Go.ChangeAt Go.RowKit

theorem equal_any (v1 v2 : Value) (t1 t2 : ByteArray) (w : World) (h1 : (convert 22 9 v1).run Try.prog w = .ok (.string t1) w) (h2 : (convert 22 9 v2).run Try.prog w = .ok (.string t2) w) :
    Calls Try.prog 21 #[v1, v2] w fun e w' => e = .returned (.bool (t1.toList == t2.toList)) ∧ w' = w := by
  go_enter Try.func21, Try.ntmps21
  go_wp2
  go_ret
  exact ⟨rfl, rfl⟩

def markL : List Int := [64, 115, 104, 97, 50, 53, 54, 58]
/-- the eight bytes at s -/
def eight (f : Nat → Int) (s : Nat) : List Int := [f s, f (s + 1), f (s + 2), f (s + 3), f (s + 4), f (s + 5), f (s + 6), f (s + 7)]

theorem ofNat_inj {a b : Int} (a0 : 0 ≤ a) (a1 : a < 256) (b0 : 0 ≤ b) (b1 : b < 256) (h : UInt8.ofNat a.toNat = UInt8.ofNat b.toNat) : a = b := by
  have := congrArg UInt8.toNat h
  simp at this
  omega
theorem eq_mark {f : Nat → Int} {s : Nat} (hr : ∀ k, 0 ≤ f k ∧ f k < 256) :
    (((strOfNums (eight f s)).toList == (strOfNums markL).toList) = true) ↔ Mark f s := by
  rw [Lib.strOfNums_toList, Lib.strOfNums_toList, beq_iff_eq]
  constructor
  · intro h
    simp only [Lib.bytesOf, eight, markL, List.map_cons, List.map_nil, List.cons.injEq, and_true] at h
    obtain ⟨h0, h1, h2, h3, h4, h5, h6, h7⟩ := h
    refine ⟨?_, ?_, ?_, ?_, ?_, ?_, ?_, ?_⟩
    · exact ofNat_inj (hr _).1 (hr _).2 (by decide) (by decide) h0
    · exact ofNat_inj (hr _).1 (hr _).2 (by decide) (by decide) h1
    · exact ofNat_inj (hr _).1 (hr _).2 (by decide) (by decide) h2
    · exact ofNat_inj (hr _).1 (hr _).2 (by decide) (by decide) h3
    · exact ofNat_inj (hr _).1 (hr _).2 (by decide) (by decide) h4
    · exact ofNat_inj (hr _).1 (hr _).2 (by decide) (by decide) h5
    · exact ofNat_inj (hr _).1 (hr _).2 (by decide) (by decide) h6
    · exact ofNat_inj (hr _).1 (hr _).2 (by decide) (by decide) h7
  · rintro ⟨h0, h1, h2, h3, h4, h5, h6, h7⟩
    simp only [eight, h0, h1, h2, h3, h4, h5, h6, h7]
    rfl

theorem prefix_short (a : Option Addr) (m c g : Nat) (w : World) (h : m < 8) :
    Calls Try.prog 18 #[.slice a m c, .slice (some ⟨g, 0, none⟩) 8 8] w fun e w' => e = .returned (.bool false) ∧ w' = w := by
  go_enter Try.func18, Try.ntmps18
  go_wp2
  go_ret
  exact ⟨rfl, rfl⟩

theorem eight_at (f : Nat → Int) (s i : Nat) (hi : i < 8) : (eight f s).getD i 0 = f (s + i) := by
  have e : i = 0 ∨ i = 1 ∨ i = 2 ∨ i = 3 ∨ i = 4 ∨ i = 5 ∨ i = 6 ∨ i = 7 := by omega
  rcases e with rfl | rfl | rfl | rfl | rfl | rfl | rfl | rfl <;> rfl

theorem prefix_long (b off s m c g : Nat) (f : Nat → Int) (w : World) (hr : ∀ k, 0 ≤ f k ∧ f k < 256) (h : 8 ≤ m) (hc : m ≤ c)
    (hcell : ∀ k, k < 8 → w.cell? ⟨b, off + (s + k), none⟩ = some (.int .u8 (f (s + k))))
    (hmark : ∀ k, k < 8 → w.cell? ⟨g, 0 + k, none⟩ = some (.int .u8 (markL.getD k 0))) :
    Calls Try.prog 18 #[.slice (some ⟨b, off + s, none⟩) m c, .slice (some ⟨g, 0, none⟩) 8 8] w fun e w' => Ans (Mark f s) e ∧ w' = w := by
  have k1 := run_convert_bytes_arg (P := Try.prog) w 22 5 Try.underlying22 Try.underlying5 b (off + s) 8 c (eight f s) rfl (fun i hi => by
    rw [eight_at f s i hi, Nat.add_assoc]; exact hcell i hi) 9 Try.underlying9
  have k2 := run_convert_bytes_arg (P := Try.prog) w 22 5 Try.underlying22 Try.underlying5 g 0 8 8 markL rfl hmark 9 Try.underlying9
  have c21 := equal_any _ _ _ _ w k1 k2
  have HE : Hid ((((strOfNums (eight f s)).toList == (strOfNums markL).toList) = true) ↔ Mark f s) := eq_mark hr
  clear k1 k2 hcell hmark
  generalize ((strOfNums (eight f s)).toList == (strOfNums markL).toList) = v at *
  go_enter Try.func18, Try.ntmps18
  go_wp2_with (go_at_call 21; refine c21.mono ?_; rintro e w' ⟨rfl, rfl⟩)
  go_ret
  exact ⟨⟨v, rfl, HE.out⟩, rfl⟩
end Go.Proofs.Qxb6617312a.Dig
