import Derived.Test.Qxb6617393aZz
import Derived.Deep.QuietTactic
import Derived.BigQuiet
namespace Go.Proofs.Qxb6617393a.Vex
open Go.ChangeShapes Go.WideShapes Go.ChangeAt Go.RowKit
set_option linter.unusedVariables false

theorem bytes6 (a : Option Addr) (n cap : Nat) (w : World) (h : n ≤ 1048576) :
    Calls Try.prog 6 #[.slice a n cap] w fun e w' => e = .returned (.bool true) ∧ w = w' := by
  go_enter Try.func6, Try.ntmps6
  go_wp2
  go_ret
  exact ⟨rfl, rfl⟩
theorem cell_lt {w : World} {b o : Nat} {v : Value} (h : w.cell? ⟨b, o, none⟩ = some v) : b < w.heap.size := by
  rcases Nat.lt_or_ge b w.heap.size with hb | hb
  · exact hb
  · simp [World.cell?, Array.getElem?_eq_none hb] at h

/-! ### the bytes, put together again out of the fields -/
def low (c : Int) : Int := c % 128
theorem low_of (c : Int) (h0 : 0 ≤ c) (h1 : c < 256) : bits BinOp.or IntKind.u8 (bits BinOp.or IntKind.u8 ((15 - vv c) * 8) (vl c * 4)) (vp c) = low c :=
  fin_of (P := fun c => bits BinOp.or IntKind.u8 (bits BinOp.or IntKind.u8 ((15 - vv c) * 8) (vl c * 4)) (vp c) = low c) (by decide +kernel) c h0 h1
theorem fin2_of (c : Int) (h0 : 0 ≤ c) (h1 : c < 256) : bits BinOp.or IntKind.u8 ((1 - vr c) * 128) (low c) = c :=
  fin_of (P := fun c => bits BinOp.or IntKind.u8 ((1 - vr c) * 128) (low c) = c) (by decide +kernel) c h0 h1
theorem fin3_of (c : Int) (h0 : 0 ≤ c) (h1 : c < 256) : bits BinOp.or IntKind.u8 (bits BinOp.or IntKind.u8 (bits BinOp.or IntKind.u8 ((1 - vr c) * 128) ((1 - vx c) * 64)) ((1 - vb c) * 32)) (vo c) = c :=
  fin_of (P := fun c => bits BinOp.or IntKind.u8 (bits BinOp.or IntKind.u8 (bits BinOp.or IntKind.u8 ((1 - vr c) * 128) ((1 - vx c) * 64)) ((1 - vb c) * 32)) (vo c) = c) (by decide +kernel) c h0 h1
theorem finw_of (c : Int) (h0 : 0 ≤ c) (h1 : c < 256) : bits BinOp.or IntKind.u8 (vw c * 128) (low c) = c :=
  fin_of (P := fun c => bits BinOp.or IntKind.u8 (vw c * 128) (low c) = c) (by decide +kernel) c h0 h1
theorem below_draws {B : Nat} {a w : World} (h : Below B a w) (n : Nat) : Below B a (w.drewN n) := h.trans ⟨rfl, rfl, rfl, Nat.le_refl _, fun _ _ => rfl⟩
theorem vr_bd (c : Int) (h0 : 0 ≤ c) (h1 : c < 256) : 0 ≤ vr c ∧ vr c ≤ 1 := by unfold vr; omega
theorem vx_bd (c : Int) (h0 : 0 ≤ c) (h1 : c < 256) : 0 ≤ vx c ∧ vx c ≤ 1 := by unfold vx; omega
theorem vb_bd (c : Int) (h0 : 0 ≤ c) (h1 : c < 256) : 0 ≤ vb c ∧ vb c ≤ 1 := by unfold vb; omega
theorem vw_bd (c : Int) (h0 : 0 ≤ c) (h1 : c < 256) : 0 ≤ vw c ∧ vw c ≤ 1 := by unfold vw; omega
theorem vl_bd (c : Int) (h0 : 0 ≤ c) (h1 : c < 256) : 0 ≤ vl c ∧ vl c ≤ 1 := by unfold vl; omega
theorem vp_bd (c : Int) (h0 : 0 ≤ c) (h1 : c < 256) : 0 ≤ vp c ∧ vp c ≤ 3 := by unfold vp; omega
theorem vv_bd (c : Int) (h0 : 0 ≤ c) (h1 : c < 256) : 0 ≤ vv c ∧ vv c ≤ 15 := by unfold vv; omega
theorem vo_bd (c : Int) (h0 : 0 ≤ c) (h1 : c < 256) : 0 ≤ vo c ∧ vo c ≤ 31 := by unfold vo; omega

/-- what the law's walk knows behind cloneBytes and ZZreadVEX -/
structure Two (b off B n : Nat) (f : Nat → Int) (w : World) : Prop where
  lt : b < w.heap.size
  lt' : B < w.heap.size
  code : ∀ j, j < n → w.cell? ⟨b, off + j, none⟩ = some (.int .u8 (f j))
  copy : ∀ j, j < n → w.cell? ⟨B, j, none⟩ = some (.int .u8 (f j))
theorem two_of {b off n : Nat} {f : Nat → Int} {w w1 w2 : World} (hb : b < w.heap.size) (hcell : ∀ j, j < n → w.cell? ⟨b, off + j, none⟩ = some (.int .u8 (f j)))
    (hb1 : Below w.heap.size w w1) (hrow : w1.rowIs w.heap.size 5 n (fun j => .int .u8 (f j))) (hb2 : Below w1.heap.size w1 w2) : Two b off w.heap.size n f w2 :=
  ⟨Nat.lt_of_lt_of_le hb (Nat.le_trans hb1.size hb2.size), Nat.lt_of_lt_of_le hrow.lt hb2.size, fun j hj => cell_later hb2 (cell_later hb1 (hcell j hj)), fun j hj => cell_later hb2 (hrow.cell hj)⟩
end Go.Proofs.Qxb6617393a.Vex
