import Derived.Test.Qxb6617393aZz
namespace Go.Proofs.Qxb6617393a.Vex
open Go.ChangeShapes Go.WideShapes Go.ChangeAt Go.RowKit
set_option linter.unusedVariables false

theorem bytes12 (a : Option Addr) (n cap : Nat) (w : World) (h : n ≤ 1048576) :
    Calls Try.prog 12 #[.slice a n cap] w fun e w' => e = .returned (.bool true) ∧ w = w' := by
  go_enter Try.func12, Try.ntmps12
  go_wp2
  go_ret
  exact ⟨rfl, rfl⟩
theorem bare_lt {w : World} {b o : Nat} {v : Value} (h : w.cell? ⟨b, o, none⟩ = some v) : b < w.heap.size := by
  rcases Nat.lt_or_ge b w.heap.size with hb | hb
  · exact hb
  · simp [World.cell?, Array.getElem?_eq_none hb] at h

/-! ### bareVEX: nothing; by the first byte -/
theorem bare_empty (a : Option Addr) (cap : Nat) (w : World) :
    Calls Try.prog 16 #[.slice a 0 cap] w fun e w' => e = .returned (.bool false) ∧ w = w' := by
  go_enter Try.func16, Try.ntmps16
  go_wp2
  go_ret
  exact ⟨rfl, rfl⟩
theorem bare_197 (b n : Nat) (w : World) (hn : 0 < n) (hc : w.cell? ⟨b, 0, none⟩ = some (.int .u8 197)) :
    Calls Try.prog 16 #[.slice (some ⟨b, 0, none⟩) n n] w fun e w' => e = .returned (.bool ((n : Int) == 2)) ∧ w = w' := by
  go_enter Try.func16, Try.ntmps16
  go_wp2
  go_ret
  exact ⟨rfl, rfl⟩
theorem bare_196 (b n : Nat) (w : World) (hn : 0 < n) (hc : w.cell? ⟨b, 0, none⟩ = some (.int .u8 196)) :
    Calls Try.prog 16 #[.slice (some ⟨b, 0, none⟩) n n] w fun e w' => e = .returned (.bool ((n : Int) == 3)) ∧ w = w' := by
  go_enter Try.func16, Try.ntmps16
  go_wp2
  go_ret
  exact ⟨rfl, rfl⟩
theorem bare_98 (b n : Nat) (w : World) (hn : 0 < n) (hc : w.cell? ⟨b, 0, none⟩ = some (.int .u8 98)) :
    Calls Try.prog 16 #[.slice (some ⟨b, 0, none⟩) n n] w fun e w' => e = .returned (.bool ((n : Int) == 4)) ∧ w = w' := by
  go_enter Try.func16, Try.ntmps16
  go_wp2
  go_ret
  exact ⟨rfl, rfl⟩
theorem bare_else (b n : Nat) (c : Int) (w : World) (hn : 0 < n) (hc : w.cell? ⟨b, 0, none⟩ = some (.int .u8 c)) (h1 : (c == 197) = false) (h2 : (c == 196) = false) (h3 : (c == 98) = false) :
    Calls Try.prog 16 #[.slice (some ⟨b, 0, none⟩) n n] w fun e w' => e = .returned (.bool false) ∧ w = w' := by
  go_enter Try.func16, Try.ntmps16
  go_wp2
  go_ret
  exact ⟨rfl, rfl⟩
theorem zzBare_of (sl : Value) (v : Bool) (w : World) (c : Calls Try.prog 16 #[sl] w fun e w' => e = .returned (.bool v) ∧ w = w') :
    Calls Try.prog 13 #[sl] w fun e w' => e = .returned (.bool v) ∧ w = w' := by
  go_enter Try.func13, Try.ntmps13
  go_wp2_with (go_at_call 16; refine c.mono ?_; rintro e w' ⟨rfl, rfl⟩)
  go_ret
  exact ⟨rfl, rfl⟩

/-- whatever is read, m prefixes at the front -/
theorem zz_front (b n m : Nat) (f : Nat → Int) (w : World) (s : Src b n f w) (p : Pre f n m) : ∃ (sz op r x bb ww l om pp v : Int) (ok : Bool),
    Calls Try.prog 8 #[.slice (some ⟨b, 0, none⟩) n n] w fun e w' => e = .returned (.tuple #[.agg #[.slice (some ⟨b, 0, none⟩) m n, .int .i64 sz, .int .u8 op, .int .u8 r, .int .u8 x, .int .u8 bb, .int .u8 ww, .int .u8 l, .int .u8 om, .int .u8 pp, .int .u8 v], .bool ok]) ∧ Below w.heap.size w w' := by
  rcases way f n m with ⟨h5, h4⟩ | ⟨hm, h⟩ | ⟨hm, h⟩ | ⟨hm, h⟩ | ⟨hm, h⟩
  · exact ⟨_, _, _, _, _, _, _, _, _, _, _, zz_0 b n m f w s p h5 h4⟩
  · exact ⟨_, _, _, _, _, _, _, _, _, _, _, zz_2a b n m f w s p hm h⟩
  · exact ⟨_, _, _, _, _, _, _, _, _, _, _, zz_2b b n m f w s p hm h⟩
  · exact ⟨_, _, _, _, _, _, _, _, _, _, _, zz_3a b n m f w s p hm h⟩
  · exact ⟨_, _, _, _, _, _, _, _, _, _, _, zz_3b b n m f w s p hm h⟩
/-- the size alone: m = 0 -/
def RdSize (f : Nat → Int) (n : Nat) (sz : Int) : Prop :=
  (sz = 0 ∧ ¬ (2 ≤ n ∧ f 0 = 197) ∧ ¬ (3 ≤ n ∧ f 0 = 196)) ∨ (sz = 2 ∧ 2 ≤ n ∧ f 0 = 197) ∨ (sz = 3 ∧ 3 ≤ n ∧ f 0 = 196)
theorem zz_bare (b n : Nat) (f : Nat → Int) (w : World) (s : Src b n f w) (p : Pre f n 0) : ∃ (sz op r x bb ww l om pp v : Int) (ok : Bool), RdSize f n sz ∧
    Calls Try.prog 8 #[.slice (some ⟨b, 0, none⟩) n n] w fun e w' => e = .returned (.tuple #[.agg #[.slice (some ⟨b, 0, none⟩) 0 n, .int .i64 sz, .int .u8 op, .int .u8 r, .int .u8 x, .int .u8 bb, .int .u8 ww, .int .u8 l, .int .u8 om, .int .u8 pp, .int .u8 v], .bool ok]) ∧ Below w.heap.size w w' := by
  rcases way f n 0 with ⟨h5, h4⟩ | ⟨hm, h⟩ | ⟨hm, h⟩ | ⟨hm, h⟩ | ⟨hm, h⟩
  · exact ⟨_, _, _, _, _, _, _, _, _, _, _, Or.inl ⟨rfl, by simpa using h5, by simpa using h4⟩, zz_0 b n 0 f w s p h5 h4⟩
  · exact ⟨_, _, _, _, _, _, _, _, _, _, _, Or.inr (Or.inl ⟨rfl, by omega, h⟩), zz_2a b n 0 f w s p hm h⟩
  · exact ⟨_, _, _, _, _, _, _, _, _, _, _, Or.inr (Or.inl ⟨rfl, by omega, h⟩), zz_2b b n 0 f w s p hm h⟩
  · exact ⟨_, _, _, _, _, _, _, _, _, _, _, Or.inr (Or.inr ⟨rfl, by omega, h⟩), zz_3a b n 0 f w s p hm h⟩
  · exact ⟨_, _, _, _, _, _, _, _, _, _, _, Or.inr (Or.inr ⟨rfl, by omega, h⟩), zz_3b b n 0 f w s p hm h⟩
theorem pre_else {c : Int} (h : preB c = true) : (c == 197) = false ∧ (c == 196) = false ∧ (c == 98) = false := by
  have h' : c = 38 ∨ c = 46 ∨ c = 54 ∨ c = 62 ∨ c = 100 ∨ c = 101 ∨ c = 103 := of_decide_eq_true h
  exact ⟨beq_no (by omega), beq_no (by omega), beq_no (by omega)⟩
end Go.Proofs.Qxb6617393a.Vex
