import Derived.Test.Qxb6617393aZz
import Derived.Deep.QuietTactic
import Derived.BigQuiet
namespace Go.Proofs.Qxb6617393a.Vex
open Go.ChangeShapes Go.WideShapes Go.ChangeAt Go.RowKit
set_option linter.unusedVariables false

theorem bytes10 (c : Int) (a : Option Addr) (n cap : Nat) (w : World) (h : n ≤ 1048576) :
    Calls Try.prog 10 #[.int .u8 c, .slice a n cap] w fun e w' => e = .returned (.bool true) ∧ w = w' := by
  go_enter Try.func10, Try.ntmps10
  go_wp2
  go_ret
  exact ⟨rfl, rfl⟩
theorem zzBefore_any (c : Int) (w : World) :
    Calls Try.prog 11 #[.int .u8 c] w fun e w' => e = .returned (.bool (preB c)) ∧ w = w' := by
  go_enter Try.func11, Try.ntmps11
  go_wp2_with (go_at_call 15; refine (before_any _ _).mono ?_; rintro e w' ⟨rfl, rfl⟩)
  go_ret
  exact ⟨rfl, rfl⟩
theorem seg_keep (c : Int) (w : World) :
    Calls Try.prog 9 #[.int .u8 c] w fun e w' => e = .returned (.bool (preB c)) ∧ w = w' :=
  (seg_any c w).mono fun _ _ h => ⟨h.1, h.2.symm⟩
theorem shift_lt {w : World} {b o : Nat} {v : Value} (h : w.cell? ⟨b, o, none⟩ = some v) : b < w.heap.size := by
  rcases Nat.lt_or_ge b w.heap.size with hb | hb
  · exact hb
  · simp [World.cell?, Array.getElem?_eq_none hb] at h
theorem shift_draws {B : Nat} {a w : World} (h : Below B a w) (n : Nat) : Below B a (w.drewN n) := h.trans ⟨rfl, rfl, rfl, Nat.le_refl _, fun _ _ => rfl⟩

/-- p, then f -/
def cons (p : Int) (f : Nat → Int) (j : Nat) : Int := if j = 0 then p else f (j - 1)
theorem cons_zero (p : Int) (f : Nat → Int) : cons p f 0 = p := rfl
theorem cons_succ (p : Int) (f : Nat → Int) (j : Nat) : cons p f (j + 1) = f j := by
  unfold cons; rw [if_neg (by omega)]; rfl
theorem cons_byte {p : Int} {f : Nat → Int} (hp : 0 ≤ p ∧ p < 256) (hf : ∀ k, 0 ≤ f k ∧ f k < 256) (k : Nat) : 0 ≤ cons p f k ∧ cons p f k < 256 := by
  unfold cons; split
  · exact hp
  · exact hf _
theorem cons_pre {p : Int} {f : Nat → Int} {n m : Nat} (hp : preB p = true) (h : Pre f n m) : Pre (cons p f) (n + 1) (m + 1) := by
  refine ⟨by have := h.le; omega, fun j hj => ?_, fun hj => ?_⟩
  · cases j with
    | zero => exact hp
    | succ j => rw [cons_succ]; exact h.all j (by omega)
  · rw [cons_succ]; exact h.stop (by omega)
theorem cons_pre0 {p : Int} {f : Nat → Int} {n : Nat} (hp : preB p = false) : Pre (cons p f) (n + 1) 0 :=
  ⟨by omega, fun j hj => by omega, fun _ => hp⟩

/-- what 'make([]byte, n+1)' lays, the world behind it a letter -/
theorem made_row (n : Nat) (hn : n ≤ 1048576) (w : World) : ∃ W1, (Instr.makeSlice 22 (.int .i64 ((n : Int) + 1)) (.int .i64 ((n : Int) + 1))).run Try.prog w = .ok (.slice (some ⟨w.heap.size, 0, none⟩) (n + 1) (n + 1)) W1 ∧
    W1.rowIs w.heap.size 5 (n + 1) (fun _ => .int .u8 0) ∧ Below w.heap.size w W1 := by
  have h := made (n + 1) (by omega) w
  rw [show ((n + 1 : Nat) : Int) = (n : Int) + 1 by omega] at h
  exact ⟨_, h, World.rowIs_made w _ _ _, (Below.refl _ _).alloc (Nat.le_refl _) _⟩

/-- a cell of a row that was laid ahead of a call -/
theorem cells_new {A : Array Value} {t : TypeId} {w2 w3 : World} (hb : Below (w2.alloc (.cells A t)).heap.size (w2.alloc (.cells A t)) w3) (i : Nat) (v : Value) (h : A[i]? = some v) :
    w3.cell? ⟨w2.heap.size, i, none⟩ = some v := by
  have hg : (w2.alloc (.cells A t)).heap[w2.heap.size]? = some (.cells A t) := by
    show (w2.heap.push _)[w2.heap.size]? = _
    simp
  rw [hb.cell (p := ⟨w2.heap.size, i, none⟩) (by show w2.heap.size < _; simp)]
  unfold World.cell?
  simp only [hg]
  exact h

/-- whatever is read, m prefixes at the front -/
theorem zz_at (b n m : Nat) (f : Nat → Int) (w : World) (s : Src b n f w) (p : Pre f n m) : ∃ (sz op r x bb ww l om pp v : Int) (ok : Bool),
    Calls Try.prog 8 #[.slice (some ⟨b, 0, none⟩) n n] w fun e w' => e = .returned (.tuple #[.agg #[.slice (some ⟨b, 0, none⟩) m n, .int .i64 sz, .int .u8 op, .int .u8 r, .int .u8 x, .int .u8 bb, .int .u8 ww, .int .u8 l, .int .u8 om, .int .u8 pp, .int .u8 v], .bool ok]) ∧ Below w.heap.size w w' := by
  rcases way f n m with ⟨h5, h4⟩ | ⟨hm, h⟩ | ⟨hm, h⟩ | ⟨hm, h⟩ | ⟨hm, h⟩
  · exact ⟨_, _, _, _, _, _, _, _, _, _, _, zz_0 b n m f w s p h5 h4⟩
  · exact ⟨_, _, _, _, _, _, _, _, _, _, _, zz_2a b n m f w s p hm h⟩
  · exact ⟨_, _, _, _, _, _, _, _, _, _, _, zz_2b b n m f w s p hm h⟩
  · exact ⟨_, _, _, _, _, _, _, _, _, _, _, zz_3a b n m f w s p hm h⟩
  · exact ⟨_, _, _, _, _, _, _, _, _, _, _, zz_3b b n m f w s p hm h⟩

theorem bne_yes {a c : Int} (h : a ≠ c) : (a != c) = true := by simpa using h
theorem src_a {B n : Nat} {g : Nat → Int} {wr w1 : World} (hn : n ≤ 1048577) (hg : ∀ k, 0 ≤ g k ∧ g k < 256) (h : wr.rowIs B 5 n (fun j => .int .u8 (g j))) (hb : Below wr.heap.size wr w1) : Src B n g w1 :=
  ⟨hn, Nat.lt_of_lt_of_le h.lt hb.size, hg, fun j hj => cell_later hb (h.cell hj)⟩
theorem src_b {B n : Nat} {g : Nat → Int} {w1 : World} (hn : n ≤ 1048577) (hg : ∀ k, 0 ≤ g k ∧ g k < 256) (h : w1.rowIs B 5 n (fun j => .int .u8 (g j))) : Src B n g w1 :=
  ⟨hn, h.lt, hg, fun j hj => h.cell hj⟩
theorem src_step {B n : Nat} {g : Nat → Int} {w1 w2 : World} (h : Src B n g w1) (hb : Below w1.heap.size w1 w2) (o : Obj) : Src B n g (w2.alloc o) :=
  (h.later hb).later ((Below.refl _ _).alloc (Nat.le_refl _) _)

/-- what is known behind the two readings: C holds p and code, D holds code, V is the first answer's block -/
structure Three (w : World) (C D V n : Nat) (pb : Int) (f : Nat → Int) (w3 : World) : Prop where
  below : Below w.heap.size w w3
  la : C < w3.heap.size
  lb : D < w3.heap.size
  lc : V < w3.heap.size
  c0 : w3.cell? ⟨C, 0, none⟩ = some (.int .u8 pb)
  copyA : ∀ j, j < n → w3.cell? ⟨C, j + 1, none⟩ = some (.int .u8 (f j))
  copyB : ∀ j, j < n → w3.cell? ⟨D, j, none⟩ = some (.int .u8 (f j))
theorem three_of {w wr w1 w2 w3 : World} {n : Nat} {pb : Int} {f : Nat → Int} {o : Obj} (hbel : Below w.heap.size w wr) (hC : wr.rowIs w.heap.size 5 (n + 1) (fun j => .int .u8 (cons pb f j)))
    (hb1 : Below wr.heap.size wr w1) (hD : Src wr.heap.size n f w1) (hb2 : Below w1.heap.size w1 w2) (hb3 : Below (w2.alloc o).heap.size (w2.alloc o) w3) : Three w w.heap.size wr.heap.size w2.heap.size n pb f w3 := by
  have k3 : Below w2.heap.size w2 w3 := ((Below.refl _ _).alloc (Nat.le_refl _) o).trans (hb3.mono (by simp))
  have k1 : Below wr.heap.size wr w3 := (hb1.trans (hb2.mono hb1.size)).trans (k3.mono (Nat.le_trans hb1.size hb2.size))
  have k2 : Below w1.heap.size w1 w3 := hb2.trans (k3.mono hb2.size)
  have hlc : w2.heap.size < w3.heap.size := by have := hb3.size; simp at this; omega
  refine ⟨hbel.trans (k1.mono hbel.size), Nat.lt_of_lt_of_le hC.lt k1.size, Nat.lt_of_lt_of_le hD.lt k2.size, hlc, cell_later k1 (hC.cell (i := 0) (by omega)), fun j hj => ?_, fun j hj => cell_later k2 (hD.cell j hj)⟩
  have := cell_later k1 (hC.cell (i := j + 1) (by omega))
  rwa [cons_succ] at this

/-- the same where code is empty -/
structure TwoZ (w : World) (C V : Nat) (pb : Int) (w3 : World) : Prop where
  below : Below w.heap.size w w3
  la : C < w3.heap.size
  lc : V < w3.heap.size
  c0 : w3.cell? ⟨C, 0, none⟩ = some (.int .u8 pb)
theorem twoz_of {w wr w1 w2 w3 : World} {pb : Int} {o : Obj} (hbel : Below w.heap.size w wr) (hC : wr.rowIs w.heap.size 5 1 (fun _ => .int .u8 pb))
    (hb1 : Below wr.heap.size wr w1) (hb2 : Below w1.heap.size w1 w2) (hb3 : Below (w2.alloc o).heap.size (w2.alloc o) w3) : TwoZ w w.heap.size w2.heap.size pb w3 := by
  have k3 : Below w2.heap.size w2 w3 := ((Below.refl _ _).alloc (Nat.le_refl _) o).trans (hb3.mono (by simp))
  have k1 : Below wr.heap.size wr w3 := (hb1.trans (hb2.mono hb1.size)).trans (k3.mono (Nat.le_trans hb1.size hb2.size))
  have hlc : w2.heap.size < w3.heap.size := by have := hb3.size; simp at this; omega
  exact ⟨hbel.trans (k1.mono hbel.size), Nat.lt_of_lt_of_le hC.lt k1.size, hlc, cell_later k1 (hC.cell (i := 0) (by omega))⟩
end Go.Proofs.Qxb6617393a.Vex
