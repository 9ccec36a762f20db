import Derived.Test.Qxb6617393aBareBase
namespace Go.Proofs.Qxb6617393a.Vex
open Go.ChangeShapes Go.WideShapes Go.ChangeAt Go.RowKit
set_option linter.unusedVariables false

set_option maxHeartbeats 1000000 in
set_option maxRecDepth 20000 in
theorem bare_A (b off n cap m : Nat) (f : Nat → Int) (w : World) (hn : n ≤ 1048576) (h0 : 0 < n) (hr : ∀ k, 0 ≤ f k ∧ f k < 256)
    (hcell : ∀ j, j < n → w.cell? ⟨b, off + j, none⟩ = some (.int .u8 (f j))) (p : Pre f n m) (hm : 0 < m) :
    Calls Try.prog 5 #[.slice (some ⟨b, off, none⟩) n cap] w fun e w' => e = .returned (.bool true) ∧ Below w.heap.size w w' := by
  obtain ⟨q1, q2, q3⟩ := pre_else (p.all 0 hm)
  have c7 := clone_row b off n cap f w hn hcell
  have c13 : ∀ w1 : World, w1.rowIs w.heap.size 5 n (fun j => .int .u8 (f j)) → Calls Try.prog 13 #[.slice (some ⟨w.heap.size, 0, none⟩) n n] w1 fun e w' => e = .returned (.bool false) ∧ w1 = w' := fun w1 h1 => zzBare_of _ _ w1 (bare_else _ _ (f 0) _ h0 (h1.cell h0) q1 q2 q3)
  have c8 : ∀ w1 : World, w1.rowIs w.heap.size 5 n (fun j => .int .u8 (f j)) → ∃ (sz op r x bb ww l om pp v : Int) (ok : Bool), Calls Try.prog 8 #[.slice (some ⟨w.heap.size, 0, none⟩) n n] w1 fun e w' => e = .returned (.tuple #[.agg #[.slice (some ⟨w.heap.size, 0, none⟩) m n, .int .i64 sz, .int .u8 op, .int .u8 r, .int .u8 x, .int .u8 bb, .int .u8 ww, .int .u8 l, .int .u8 om, .int .u8 pp, .int .u8 v], .bool ok]) ∧ Below w1.heap.size w1 w' := fun w1 h1 => by
    have s : Src w.heap.size n f w1 := ⟨by omega, h1.lt, hr, fun j hj => h1.cell hj⟩
    exact zz_front w.heap.size n m f w1 s p
  have hb := bare_lt (hcell 0 h0)
  have hc0 : w.cell? ⟨b, off, none⟩ = some (.int .u8 (f 0)) := by exact hcell 0 h0
  have hpl := p.le
  have hm0 : ((m : Int) == 0) = false := beq_no (by omega)
  clear hcell p hr
  go_enter Try.func5, Try.ntmps5
  go_wp2_with (first
    | (go_at_call 12; go_must (refine (bytes12 _ _ _ _ (by omega)).mono ?_); rintro e w' ⟨rfl, rfl⟩)
    | (go_at_call 7; go_must (refine c7.mono ?_); rintro e w1 ⟨rfl, hb1, hrow⟩; have H1 : Hid (w1.rowIs _ 5 n (fun j => .int .u8 (f j))) := hrow; clear hrow)
    | (go_at_call 13; go_must (refine (c13 _ H1.out).mono ?_); rintro e w' ⟨rfl, rfl⟩)
    | (go_at_call 8; obtain ⟨sz, op, r, x, bb, ww, l, om, pp, v, ok, c⟩ := c8 _ H1.out; go_must (refine c.mono ?_); clear c; rintro e w2 ⟨rfl, hb2⟩
       have hd0 : w2.cell? ⟨b, off, none⟩ = some (.int .u8 (f 0)) := cell_later hb2 (cell_later hb1 hc0)
       have hl1 : b < w2.heap.size := Nat.lt_of_lt_of_le hb (Nat.le_trans hb1.size hb2.size)))
  all_goals
    go_ret
    have hbb := hb1.trans (hb2.mono hb1.size)
    exact ⟨rfl, hbb.alloc hbb.size _⟩
set_option maxHeartbeats 1000000 in
set_option maxRecDepth 20000 in
theorem bare_2y (b off n cap : Nat) (f : Nat → Int) (w : World) (hn : n ≤ 1048576) (h0 : 0 < n) (hr : ∀ k, 0 ≤ f k ∧ f k < 256)
    (hcell : ∀ j, j < n → w.cell? ⟨b, off + j, none⟩ = some (.int .u8 (f j))) (p : Pre f n 0) (h : f 0 = 197) (hx : n = 2) :
    Calls Try.prog 5 #[.slice (some ⟨b, off, none⟩) n cap] w fun e w' => e = .returned (.bool true) ∧ Below w.heap.size w w' := by
  have c7 := clone_row b off n cap f w hn hcell
  have c13 : ∀ w1 : World, w1.rowIs w.heap.size 5 n (fun j => .int .u8 (f j)) → Calls Try.prog 13 #[.slice (some ⟨w.heap.size, 0, none⟩) n n] w1 fun e w' => e = .returned (.bool ((n : Int) == 2)) ∧ w1 = w' := fun w1 h1 => zzBare_of _ _ w1 (bare_197 _ _ _ h0 (by rw [← h]; exact h1.cell h0))
  have c8 : ∀ w1 : World, w1.rowIs w.heap.size 5 n (fun j => .int .u8 (f j)) → ∃ (op r x bb ww l om pp v : Int) (ok : Bool), Calls Try.prog 8 #[.slice (some ⟨w.heap.size, 0, none⟩) n n] w1 fun e w' => e = .returned (.tuple #[.agg #[.slice (some ⟨w.heap.size, 0, none⟩) 0 n, .int .i64 2, .int .u8 op, .int .u8 r, .int .u8 x, .int .u8 bb, .int .u8 ww, .int .u8 l, .int .u8 om, .int .u8 pp, .int .u8 v], .bool ok]) ∧ Below w1.heap.size w1 w' := fun w1 h1 => by
    have s : Src w.heap.size n f w1 := ⟨by omega, h1.lt, hr, fun j hj => h1.cell hj⟩
    obtain ⟨sz, op, r, x, bb, ww, l, om, pp, v, ok, hs, c⟩ := zz_bare w.heap.size n f w1 s p
    obtain rfl : sz = 2 := by unfold RdSize at hs; omega
    exact ⟨op, r, x, bb, ww, l, om, pp, v, ok, c⟩
  have hb := bare_lt (hcell 0 h0)
  have hc0 : w.cell? ⟨b, off, none⟩ = some (.int .u8 197) := by rw [← h]; exact hcell 0 h0
  have hpl := p.le
  have q1 : ((n : Int) == 2) = true := beq_iff_eq.2 (by omega)
  have q2 : (2 == (n : Int)) = true := beq_iff_eq.2 (by omega)
  have hx1 : n ≤ 2 := by omega
  have hx2 : 2 ≤ n := by omega
  clear hx h
  clear hcell p hr
  go_enter Try.func5, Try.ntmps5
  go_wp2_with (first
    | (go_at_call 12; go_must (refine (bytes12 _ _ _ _ (by omega)).mono ?_); rintro e w' ⟨rfl, rfl⟩)
    | (go_at_call 7; go_must (refine c7.mono ?_); rintro e w1 ⟨rfl, hb1, hrow⟩; have H1 : Hid (w1.rowIs _ 5 n (fun j => .int .u8 (f j))) := hrow; clear hrow)
    | (go_at_call 13; go_must (refine (c13 _ H1.out).mono ?_); rintro e w' ⟨rfl, rfl⟩)
    | (go_at_call 8; obtain ⟨op, r, x, bb, ww, l, om, pp, v, ok, c⟩ := c8 _ H1.out; go_must (refine c.mono ?_); clear c; rintro e w2 ⟨rfl, hb2⟩
       have hd0 : w2.cell? ⟨b, off, none⟩ = some (.int .u8 197) := cell_later hb2 (cell_later hb1 hc0)
       have hl1 : b < w2.heap.size := Nat.lt_of_lt_of_le hb (Nat.le_trans hb1.size hb2.size)))
  all_goals
    go_ret
    have hbb := hb1.trans (hb2.mono hb1.size)
    exact ⟨rfl, hbb.alloc hbb.size _⟩
set_option maxHeartbeats 1000000 in
set_option maxRecDepth 20000 in
theorem bare_2n (b off n cap : Nat) (f : Nat → Int) (w : World) (hn : n ≤ 1048576) (h0 : 0 < n) (hr : ∀ k, 0 ≤ f k ∧ f k < 256)
    (hcell : ∀ j, j < n → w.cell? ⟨b, off + j, none⟩ = some (.int .u8 (f j))) (p : Pre f n 0) (h : f 0 = 197) (hx : 2 < n) :
    Calls Try.prog 5 #[.slice (some ⟨b, off, none⟩) n cap] w fun e w' => e = .returned (.bool true) ∧ Below w.heap.size w w' := by
  have c7 := clone_row b off n cap f w hn hcell
  have c13 : ∀ w1 : World, w1.rowIs w.heap.size 5 n (fun j => .int .u8 (f j)) → Calls Try.prog 13 #[.slice (some ⟨w.heap.size, 0, none⟩) n n] w1 fun e w' => e = .returned (.bool ((n : Int) == 2)) ∧ w1 = w' := fun w1 h1 => zzBare_of _ _ w1 (bare_197 _ _ _ h0 (by rw [← h]; exact h1.cell h0))
  have c8 : ∀ w1 : World, w1.rowIs w.heap.size 5 n (fun j => .int .u8 (f j)) → ∃ (op r x bb ww l om pp v : Int) (ok : Bool), Calls Try.prog 8 #[.slice (some ⟨w.heap.size, 0, none⟩) n n] w1 fun e w' => e = .returned (.tuple #[.agg #[.slice (some ⟨w.heap.size, 0, none⟩) 0 n, .int .i64 2, .int .u8 op, .int .u8 r, .int .u8 x, .int .u8 bb, .int .u8 ww, .int .u8 l, .int .u8 om, .int .u8 pp, .int .u8 v], .bool ok]) ∧ Below w1.heap.size w1 w' := fun w1 h1 => by
    have s : Src w.heap.size n f w1 := ⟨by omega, h1.lt, hr, fun j hj => h1.cell hj⟩
    obtain ⟨sz, op, r, x, bb, ww, l, om, pp, v, ok, hs, c⟩ := zz_bare w.heap.size n f w1 s p
    obtain rfl : sz = 2 := by unfold RdSize at hs; omega
    exact ⟨op, r, x, bb, ww, l, om, pp, v, ok, c⟩
  have hb := bare_lt (hcell 0 h0)
  have hc0 : w.cell? ⟨b, off, none⟩ = some (.int .u8 197) := by rw [← h]; exact hcell 0 h0
  have hpl := p.le
  have q1 : ((n : Int) == 2) = false := beq_no (by omega)
  have q2 : (2 == (n : Int)) = false := beq_no (by omega)
  clear h
  clear hcell p hr
  go_enter Try.func5, Try.ntmps5
  go_wp2_with (first
    | (go_at_call 12; go_must (refine (bytes12 _ _ _ _ (by omega)).mono ?_); rintro e w' ⟨rfl, rfl⟩)
    | (go_at_call 7; go_must (refine c7.mono ?_); rintro e w1 ⟨rfl, hb1, hrow⟩; have H1 : Hid (w1.rowIs _ 5 n (fun j => .int .u8 (f j))) := hrow; clear hrow)
    | (go_at_call 13; go_must (refine (c13 _ H1.out).mono ?_); rintro e w' ⟨rfl, rfl⟩)
    | (go_at_call 8; obtain ⟨op, r, x, bb, ww, l, om, pp, v, ok, c⟩ := c8 _ H1.out; go_must (refine c.mono ?_); clear c; rintro e w2 ⟨rfl, hb2⟩
       have hd0 : w2.cell? ⟨b, off, none⟩ = some (.int .u8 197) := cell_later hb2 (cell_later hb1 hc0)
       have hl1 : b < w2.heap.size := Nat.lt_of_lt_of_le hb (Nat.le_trans hb1.size hb2.size)))
  all_goals
    go_ret
    have hbb := hb1.trans (hb2.mono hb1.size)
    exact ⟨rfl, hbb.alloc hbb.size _⟩
set_option maxHeartbeats 1000000 in
set_option maxRecDepth 20000 in
theorem bare_2z (b off n cap : Nat) (f : Nat → Int) (w : World) (hn : n ≤ 1048576) (h0 : 0 < n) (hr : ∀ k, 0 ≤ f k ∧ f k < 256)
    (hcell : ∀ j, j < n → w.cell? ⟨b, off + j, none⟩ = some (.int .u8 (f j))) (p : Pre f n 0) (h : f 0 = 197) (hx : n < 2) :
    Calls Try.prog 5 #[.slice (some ⟨b, off, none⟩) n cap] w fun e w' => e = .returned (.bool true) ∧ Below w.heap.size w w' := by
  have c7 := clone_row b off n cap f w hn hcell
  have c13 : ∀ w1 : World, w1.rowIs w.heap.size 5 n (fun j => .int .u8 (f j)) → Calls Try.prog 13 #[.slice (some ⟨w.heap.size, 0, none⟩) n n] w1 fun e w' => e = .returned (.bool ((n : Int) == 2)) ∧ w1 = w' := fun w1 h1 => zzBare_of _ _ w1 (bare_197 _ _ _ h0 (by rw [← h]; exact h1.cell h0))
  have c8 : ∀ w1 : World, w1.rowIs w.heap.size 5 n (fun j => .int .u8 (f j)) → ∃ (op r x bb ww l om pp v : Int) (ok : Bool), Calls Try.prog 8 #[.slice (some ⟨w.heap.size, 0, none⟩) n n] w1 fun e w' => e = .returned (.tuple #[.agg #[.slice (some ⟨w.heap.size, 0, none⟩) 0 n, .int .i64 0, .int .u8 op, .int .u8 r, .int .u8 x, .int .u8 bb, .int .u8 ww, .int .u8 l, .int .u8 om, .int .u8 pp, .int .u8 v], .bool ok]) ∧ Below w1.heap.size w1 w' := fun w1 h1 => by
    have s : Src w.heap.size n f w1 := ⟨by omega, h1.lt, hr, fun j hj => h1.cell hj⟩
    obtain ⟨sz, op, r, x, bb, ww, l, om, pp, v, ok, hs, c⟩ := zz_bare w.heap.size n f w1 s p
    obtain rfl : sz = 0 := by unfold RdSize at hs; omega
    exact ⟨op, r, x, bb, ww, l, om, pp, v, ok, c⟩
  have hb := bare_lt (hcell 0 h0)
  have hc0 : w.cell? ⟨b, off, none⟩ = some (.int .u8 197) := by rw [← h]; exact hcell 0 h0
  have hpl := p.le
  have q1 : ((n : Int) == 2) = false := beq_no (by omega)
  have q2 : (0 == (n : Int)) = false := beq_no (by omega)
  clear h
  clear hcell p hr
  go_enter Try.func5, Try.ntmps5
  go_wp2_with (first
    | (go_at_call 12; go_must (refine (bytes12 _ _ _ _ (by omega)).mono ?_); rintro e w' ⟨rfl, rfl⟩)
    | (go_at_call 7; go_must (refine c7.mono ?_); rintro e w1 ⟨rfl, hb1, hrow⟩; have H1 : Hid (w1.rowIs _ 5 n (fun j => .int .u8 (f j))) := hrow; clear hrow)
    | (go_at_call 13; go_must (refine (c13 _ H1.out).mono ?_); rintro e w' ⟨rfl, rfl⟩)
    | (go_at_call 8; obtain ⟨op, r, x, bb, ww, l, om, pp, v, ok, c⟩ := c8 _ H1.out; go_must (refine c.mono ?_); clear c; rintro e w2 ⟨rfl, hb2⟩
       have hd0 : w2.cell? ⟨b, off, none⟩ = some (.int .u8 197) := cell_later hb2 (cell_later hb1 hc0)
       have hl1 : b < w2.heap.size := Nat.lt_of_lt_of_le hb (Nat.le_trans hb1.size hb2.size)))
  all_goals
    go_ret
    have hbb := hb1.trans (hb2.mono hb1.size)
    exact ⟨rfl, hbb.alloc hbb.size _⟩
set_option maxHeartbeats 1000000 in
set_option maxRecDepth 20000 in
theorem bare_3y (b off n cap : Nat) (f : Nat → Int) (w : World) (hn : n ≤ 1048576) (h0 : 0 < n) (hr : ∀ k, 0 ≤ f k ∧ f k < 256)
    (hcell : ∀ j, j < n → w.cell? ⟨b, off + j, none⟩ = some (.int .u8 (f j))) (p : Pre f n 0) (h : f 0 = 196) (hx : n = 3) :
    Calls Try.prog 5 #[.slice (some ⟨b, off, none⟩) n cap] w fun e w' => e = .returned (.bool true) ∧ Below w.heap.size w w' := by
  have c7 := clone_row b off n cap f w hn hcell
  have c13 : ∀ w1 : World, w1.rowIs w.heap.size 5 n (fun j => .int .u8 (f j)) → Calls Try.prog 13 #[.slice (some ⟨w.heap.size, 0, none⟩) n n] w1 fun e w' => e = .returned (.bool ((n : Int) == 3)) ∧ w1 = w' := fun w1 h1 => zzBare_of _ _ w1 (bare_196 _ _ _ h0 (by rw [← h]; exact h1.cell h0))
  have c8 : ∀ w1 : World, w1.rowIs w.heap.size 5 n (fun j => .int .u8 (f j)) → ∃ (op r x bb ww l om pp v : Int) (ok : Bool), Calls Try.prog 8 #[.slice (some ⟨w.heap.size, 0, none⟩) n n] w1 fun e w' => e = .returned (.tuple #[.agg #[.slice (some ⟨w.heap.size, 0, none⟩) 0 n, .int .i64 3, .int .u8 op, .int .u8 r, .int .u8 x, .int .u8 bb, .int .u8 ww, .int .u8 l, .int .u8 om, .int .u8 pp, .int .u8 v], .bool ok]) ∧ Below w1.heap.size w1 w' := fun w1 h1 => by
    have s : Src w.heap.size n f w1 := ⟨by omega, h1.lt, hr, fun j hj => h1.cell hj⟩
    obtain ⟨sz, op, r, x, bb, ww, l, om, pp, v, ok, hs, c⟩ := zz_bare w.heap.size n f w1 s p
    obtain rfl : sz = 3 := by unfold RdSize at hs; omega
    exact ⟨op, r, x, bb, ww, l, om, pp, v, ok, c⟩
  have hb := bare_lt (hcell 0 h0)
  have hc0 : w.cell? ⟨b, off, none⟩ = some (.int .u8 196) := by rw [← h]; exact hcell 0 h0
  have hpl := p.le
  have q1 : ((n : Int) == 3) = true := beq_iff_eq.2 (by omega)
  have q2 : (3 == (n : Int)) = true := beq_iff_eq.2 (by omega)
  have hx1 : n ≤ 3 := by omega
  have hx2 : 3 ≤ n := by omega
  clear hx h
  clear hcell p hr
  go_enter Try.func5, Try.ntmps5
  go_wp2_with (first
    | (go_at_call 12; go_must (refine (bytes12 _ _ _ _ (by omega)).mono ?_); rintro e w' ⟨rfl, rfl⟩)
    | (go_at_call 7; go_must (refine c7.mono ?_); rintro e w1 ⟨rfl, hb1, hrow⟩; have H1 : Hid (w1.rowIs _ 5 n (fun j => .int .u8 (f j))) := hrow; clear hrow)
    | (go_at_call 13; go_must (refine (c13 _ H1.out).mono ?_); rintro e w' ⟨rfl, rfl⟩)
    | (go_at_call 8; obtain ⟨op, r, x, bb, ww, l, om, pp, v, ok, c⟩ := c8 _ H1.out; go_must (refine c.mono ?_); clear c; rintro e w2 ⟨rfl, hb2⟩
       have hd0 : w2.cell? ⟨b, off, none⟩ = some (.int .u8 196) := cell_later hb2 (cell_later hb1 hc0)
       have hl1 : b < w2.heap.size := Nat.lt_of_lt_of_le hb (Nat.le_trans hb1.size hb2.size)))
  all_goals
    go_ret
    have hbb := hb1.trans (hb2.mono hb1.size)
    exact ⟨rfl, hbb.alloc hbb.size _⟩
set_option maxHeartbeats 1000000 in
set_option maxRecDepth 20000 in
theorem bare_3n (b off n cap : Nat) (f : Nat → Int) (w : World) (hn : n ≤ 1048576) (h0 : 0 < n) (hr : ∀ k, 0 ≤ f k ∧ f k < 256)
    (hcell : ∀ j, j < n → w.cell? ⟨b, off + j, none⟩ = some (.int .u8 (f j))) (p : Pre f n 0) (h : f 0 = 196) (hx : 3 < n) :
    Calls Try.prog 5 #[.slice (some ⟨b, off, none⟩) n cap] w fun e w' => e = .returned (.bool true) ∧ Below w.heap.size w w' := by
  have c7 := clone_row b off n cap f w hn hcell
  have c13 : ∀ w1 : World, w1.rowIs w.heap.size 5 n (fun j => .int .u8 (f j)) → Calls Try.prog 13 #[.slice (some ⟨w.heap.size, 0, none⟩) n n] w1 fun e w' => e = .returned (.bool ((n : Int) == 3)) ∧ w1 = w' := fun w1 h1 => zzBare_of _ _ w1 (bare_196 _ _ _ h0 (by rw [← h]; exact h1.cell h0))
  have c8 : ∀ w1 : World, w1.rowIs w.heap.size 5 n (fun j => .int .u8 (f j)) → ∃ (op r x bb ww l om pp v : Int) (ok : Bool), Calls Try.prog 8 #[.slice (some ⟨w.heap.size, 0, none⟩) n n] w1 fun e w' => e = .returned (.tuple #[.agg #[.slice (some ⟨w.heap.size, 0, none⟩) 0 n, .int .i64 3, .int .u8 op, .int .u8 r, .int .u8 x, .int .u8 bb, .int .u8 ww, .int .u8 l, .int .u8 om, .int .u8 pp, .int .u8 v], .bool ok]) ∧ Below w1.heap.size w1 w' := fun w1 h1 => by
    have s : Src w.heap.size n f w1 := ⟨by omega, h1.lt, hr, fun j hj => h1.cell hj⟩
    obtain ⟨sz, op, r, x, bb, ww, l, om, pp, v, ok, hs, c⟩ := zz_bare w.heap.size n f w1 s p
    obtain rfl : sz = 3 := by unfold RdSize at hs; omega
    exact ⟨op, r, x, bb, ww, l, om, pp, v, ok, c⟩
  have hb := bare_lt (hcell 0 h0)
  have hc0 : w.cell? ⟨b, off, none⟩ = some (.int .u8 196) := by rw [← h]; exact hcell 0 h0
  have hpl := p.le
  have q1 : ((n : Int) == 3) = false := beq_no (by omega)
  have q2 : (3 == (n : Int)) = false := beq_no (by omega)
  clear h
  clear hcell p hr
  go_enter Try.func5, Try.ntmps5
  go_wp2_with (first
    | (go_at_call 12; go_must (refine (bytes12 _ _ _ _ (by omega)).mono ?_); rintro e w' ⟨rfl, rfl⟩)
    | (go_at_call 7; go_must (refine c7.mono ?_); rintro e w1 ⟨rfl, hb1, hrow⟩; have H1 : Hid (w1.rowIs _ 5 n (fun j => .int .u8 (f j))) := hrow; clear hrow)
    | (go_at_call 13; go_must (refine (c13 _ H1.out).mono ?_); rintro e w' ⟨rfl, rfl⟩)
    | (go_at_call 8; obtain ⟨op, r, x, bb, ww, l, om, pp, v, ok, c⟩ := c8 _ H1.out; go_must (refine c.mono ?_); clear c; rintro e w2 ⟨rfl, hb2⟩
       have hd0 : w2.cell? ⟨b, off, none⟩ = some (.int .u8 196) := cell_later hb2 (cell_later hb1 hc0)
       have hl1 : b < w2.heap.size := Nat.lt_of_lt_of_le hb (Nat.le_trans hb1.size hb2.size)))
  all_goals
    go_ret
    have hbb := hb1.trans (hb2.mono hb1.size)
    exact ⟨rfl, hbb.alloc hbb.size _⟩
set_option maxHeartbeats 1000000 in
set_option maxRecDepth 20000 in
theorem bare_3z (b off n cap : Nat) (f : Nat → Int) (w : World) (hn : n ≤ 1048576) (h0 : 0 < n) (hr : ∀ k, 0 ≤ f k ∧ f k < 256)
    (hcell : ∀ j, j < n → w.cell? ⟨b, off + j, none⟩ = some (.int .u8 (f j))) (p : Pre f n 0) (h : f 0 = 196) (hx : n < 3) :
    Calls Try.prog 5 #[.slice (some ⟨b, off, none⟩) n cap] w fun e w' => e = .returned (.bool true) ∧ Below w.heap.size w w' := by
  have c7 := clone_row b off n cap f w hn hcell
  have c13 : ∀ w1 : World, w1.rowIs w.heap.size 5 n (fun j => .int .u8 (f j)) → Calls Try.prog 13 #[.slice (some ⟨w.heap.size, 0, none⟩) n n] w1 fun e w' => e = .returned (.bool ((n : Int) == 3)) ∧ w1 = w' := fun w1 h1 => zzBare_of _ _ w1 (bare_196 _ _ _ h0 (by rw [← h]; exact h1.cell h0))
  have c8 : ∀ w1 : World, w1.rowIs w.heap.size 5 n (fun j => .int .u8 (f j)) → ∃ (op r x bb ww l om pp v : Int) (ok : Bool), Calls Try.prog 8 #[.slice (some ⟨w.heap.size, 0, none⟩) n n] w1 fun e w' => e = .returned (.tuple #[.agg #[.slice (some ⟨w.heap.size, 0, none⟩) 0 n, .int .i64 0, .int .u8 op, .int .u8 r, .int .u8 x, .int .u8 bb, .int .u8 ww, .int .u8 l, .int .u8 om, .int .u8 pp, .int .u8 v], .bool ok]) ∧ Below w1.heap.size w1 w' := fun w1 h1 => by
    have s : Src w.heap.size n f w1 := ⟨by omega, h1.lt, hr, fun j hj => h1.cell hj⟩
    obtain ⟨sz, op, r, x, bb, ww, l, om, pp, v, ok, hs, c⟩ := zz_bare w.heap.size n f w1 s p
    obtain rfl : sz = 0 := by unfold RdSize at hs; omega
    exact ⟨op, r, x, bb, ww, l, om, pp, v, ok, c⟩
  have hb := bare_lt (hcell 0 h0)
  have hc0 : w.cell? ⟨b, off, none⟩ = some (.int .u8 196) := by rw [← h]; exact hcell 0 h0
  have hpl := p.le
  have q1 : ((n : Int) == 3) = false := beq_no (by omega)
  have q2 : (0 == (n : Int)) = false := beq_no (by omega)
  clear h
  clear hcell p hr
  go_enter Try.func5, Try.ntmps5
  go_wp2_with (first
    | (go_at_call 12; go_must (refine (bytes12 _ _ _ _ (by omega)).mono ?_); rintro e w' ⟨rfl, rfl⟩)
    | (go_at_call 7; go_must (refine c7.mono ?_); rintro e w1 ⟨rfl, hb1, hrow⟩; have H1 : Hid (w1.rowIs _ 5 n (fun j => .int .u8 (f j))) := hrow; clear hrow)
    | (go_at_call 13; go_must (refine (c13 _ H1.out).mono ?_); rintro e w' ⟨rfl, rfl⟩)
    | (go_at_call 8; obtain ⟨op, r, x, bb, ww, l, om, pp, v, ok, c⟩ := c8 _ H1.out; go_must (refine c.mono ?_); clear c; rintro e w2 ⟨rfl, hb2⟩
       have hd0 : w2.cell? ⟨b, off, none⟩ = some (.int .u8 196) := cell_later hb2 (cell_later hb1 hc0)
       have hl1 : b < w2.heap.size := Nat.lt_of_lt_of_le hb (Nat.le_trans hb1.size hb2.size)))
  all_goals
    go_ret
    have hbb := hb1.trans (hb2.mono hb1.size)
    exact ⟨rfl, hbb.alloc hbb.size _⟩
set_option maxHeartbeats 1000000 in
set_option maxRecDepth 20000 in
theorem bare_9y (b off n cap : Nat) (f : Nat → Int) (w : World) (hn : n ≤ 1048576) (h0 : 0 < n) (hr : ∀ k, 0 ≤ f k ∧ f k < 256)
    (hcell : ∀ j, j < n → w.cell? ⟨b, off + j, none⟩ = some (.int .u8 (f j))) (p : Pre f n 0) (h : f 0 = 98) (hx : n = 4) :
    Calls Try.prog 5 #[.slice (some ⟨b, off, none⟩) n cap] w fun e w' => e = .returned (.bool true) ∧ Below w.heap.size w w' := by
  have c7 := clone_row b off n cap f w hn hcell
  have c13 : ∀ w1 : World, w1.rowIs w.heap.size 5 n (fun j => .int .u8 (f j)) → Calls Try.prog 13 #[.slice (some ⟨w.heap.size, 0, none⟩) n n] w1 fun e w' => e = .returned (.bool ((n : Int) == 4)) ∧ w1 = w' := fun w1 h1 => zzBare_of _ _ w1 (bare_98 _ _ _ h0 (by rw [← h]; exact h1.cell h0))
  have c8 : ∀ w1 : World, w1.rowIs w.heap.size 5 n (fun j => .int .u8 (f j)) → ∃ (op r x bb ww l om pp v : Int) (ok : Bool), Calls Try.prog 8 #[.slice (some ⟨w.heap.size, 0, none⟩) n n] w1 fun e w' => e = .returned (.tuple #[.agg #[.slice (some ⟨w.heap.size, 0, none⟩) 0 n, .int .i64 0, .int .u8 op, .int .u8 r, .int .u8 x, .int .u8 bb, .int .u8 ww, .int .u8 l, .int .u8 om, .int .u8 pp, .int .u8 v], .bool ok]) ∧ Below w1.heap.size w1 w' := fun w1 h1 => by
    have s : Src w.heap.size n f w1 := ⟨by omega, h1.lt, hr, fun j hj => h1.cell hj⟩
    obtain ⟨sz, op, r, x, bb, ww, l, om, pp, v, ok, hs, c⟩ := zz_bare w.heap.size n f w1 s p
    obtain rfl : sz = 0 := by unfold RdSize at hs; omega
    exact ⟨op, r, x, bb, ww, l, om, pp, v, ok, c⟩
  have hb := bare_lt (hcell 0 h0)
  have hc0 : w.cell? ⟨b, off, none⟩ = some (.int .u8 98) := by rw [← h]; exact hcell 0 h0
  have hpl := p.le
  have q1 : ((n : Int) == 4) = true := beq_iff_eq.2 (by omega)
  have q2 : (0 == (n : Int)) = false := beq_no (by omega)
  have hx1 : n ≤ 4 := by omega
  have hx2 : 4 ≤ n := by omega
  clear hx h
  clear hcell p hr
  go_enter Try.func5, Try.ntmps5
  go_wp2_with (first
    | (go_at_call 12; go_must (refine (bytes12 _ _ _ _ (by omega)).mono ?_); rintro e w' ⟨rfl, rfl⟩)
    | (go_at_call 7; go_must (refine c7.mono ?_); rintro e w1 ⟨rfl, hb1, hrow⟩; have H1 : Hid (w1.rowIs _ 5 n (fun j => .int .u8 (f j))) := hrow; clear hrow)
    | (go_at_call 13; go_must (refine (c13 _ H1.out).mono ?_); rintro e w' ⟨rfl, rfl⟩)
    | (go_at_call 8; obtain ⟨op, r, x, bb, ww, l, om, pp, v, ok, c⟩ := c8 _ H1.out; go_must (refine c.mono ?_); clear c; rintro e w2 ⟨rfl, hb2⟩
       have hd0 : w2.cell? ⟨b, off, none⟩ = some (.int .u8 98) := cell_later hb2 (cell_later hb1 hc0)
       have hl1 : b < w2.heap.size := Nat.lt_of_lt_of_le hb (Nat.le_trans hb1.size hb2.size)))
  all_goals
    go_ret
    have hbb := hb1.trans (hb2.mono hb1.size)
    exact ⟨rfl, hbb.alloc hbb.size _⟩
set_option maxHeartbeats 1000000 in
set_option maxRecDepth 20000 in
theorem bare_9n (b off n cap : Nat) (f : Nat → Int) (w : World) (hn : n ≤ 1048576) (h0 : 0 < n) (hr : ∀ k, 0 ≤ f k ∧ f k < 256)
    (hcell : ∀ j, j < n → w.cell? ⟨b, off + j, none⟩ = some (.int .u8 (f j))) (p : Pre f n 0) (h : f 0 = 98) (hx : ¬ n = 4) :
    Calls Try.prog 5 #[.slice (some ⟨b, off, none⟩) n cap] w fun e w' => e = .returned (.bool true) ∧ Below w.heap.size w w' := by
  have c7 := clone_row b off n cap f w hn hcell
  have c13 : ∀ w1 : World, w1.rowIs w.heap.size 5 n (fun j => .int .u8 (f j)) → Calls Try.prog 13 #[.slice (some ⟨w.heap.size, 0, none⟩) n n] w1 fun e w' => e = .returned (.bool ((n : Int) == 4)) ∧ w1 = w' := fun w1 h1 => zzBare_of _ _ w1 (bare_98 _ _ _ h0 (by rw [← h]; exact h1.cell h0))
  have c8 : ∀ w1 : World, w1.rowIs w.heap.size 5 n (fun j => .int .u8 (f j)) → ∃ (op r x bb ww l om pp v : Int) (ok : Bool), Calls Try.prog 8 #[.slice (some ⟨w.heap.size, 0, none⟩) n n] w1 fun e w' => e = .returned (.tuple #[.agg #[.slice (some ⟨w.heap.size, 0, none⟩) 0 n, .int .i64 0, .int .u8 op, .int .u8 r, .int .u8 x, .int .u8 bb, .int .u8 ww, .int .u8 l, .int .u8 om, .int .u8 pp, .int .u8 v], .bool ok]) ∧ Below w1.heap.size w1 w' := fun w1 h1 => by
    have s : Src w.heap.size n f w1 := ⟨by omega, h1.lt, hr, fun j hj => h1.cell hj⟩
    obtain ⟨sz, op, r, x, bb, ww, l, om, pp, v, ok, hs, c⟩ := zz_bare w.heap.size n f w1 s p
    obtain rfl : sz = 0 := by unfold RdSize at hs; omega
    exact ⟨op, r, x, bb, ww, l, om, pp, v, ok, c⟩
  have hb := bare_lt (hcell 0 h0)
  have hc0 : w.cell? ⟨b, off, none⟩ = some (.int .u8 98) := by rw [← h]; exact hcell 0 h0
  have hpl := p.le
  have q1 : ((n : Int) == 4) = false := beq_no (by omega)
  have q2 : (0 == (n : Int)) = false := beq_no (by omega)
  clear h hx
  clear hcell p hr
  go_enter Try.func5, Try.ntmps5
  go_wp2_with (first
    | (go_at_call 12; go_must (refine (bytes12 _ _ _ _ (by omega)).mono ?_); rintro e w' ⟨rfl, rfl⟩)
    | (go_at_call 7; go_must (refine c7.mono ?_); rintro e w1 ⟨rfl, hb1, hrow⟩; have H1 : Hid (w1.rowIs _ 5 n (fun j => .int .u8 (f j))) := hrow; clear hrow)
    | (go_at_call 13; go_must (refine (c13 _ H1.out).mono ?_); rintro e w' ⟨rfl, rfl⟩)
    | (go_at_call 8; obtain ⟨op, r, x, bb, ww, l, om, pp, v, ok, c⟩ := c8 _ H1.out; go_must (refine c.mono ?_); clear c; rintro e w2 ⟨rfl, hb2⟩
       have hd0 : w2.cell? ⟨b, off, none⟩ = some (.int .u8 98) := cell_later hb2 (cell_later hb1 hc0)
       have hl1 : b < w2.heap.size := Nat.lt_of_lt_of_le hb (Nat.le_trans hb1.size hb2.size)))
  all_goals
    go_ret
    have hbb := hb1.trans (hb2.mono hb1.size)
    exact ⟨rfl, hbb.alloc hbb.size _⟩
set_option maxHeartbeats 1000000 in
set_option maxRecDepth 20000 in
theorem bare_E (b off n cap : Nat) (f : Nat → Int) (w : World) (hn : n ≤ 1048576) (h0 : 0 < n) (hr : ∀ k, 0 ≤ f k ∧ f k < 256)
    (hcell : ∀ j, j < n → w.cell? ⟨b, off + j, none⟩ = some (.int .u8 (f j))) (p : Pre f n 0) (e1 : ¬ f 0 = 197) (e2 : ¬ f 0 = 196) (e3 : ¬ f 0 = 98) :
    Calls Try.prog 5 #[.slice (some ⟨b, off, none⟩) n cap] w fun e w' => e = .returned (.bool true) ∧ Below w.heap.size w w' := by
  have c7 := clone_row b off n cap f w hn hcell
  have c13 : ∀ w1 : World, w1.rowIs w.heap.size 5 n (fun j => .int .u8 (f j)) → Calls Try.prog 13 #[.slice (some ⟨w.heap.size, 0, none⟩) n n] w1 fun e w' => e = .returned (.bool false) ∧ w1 = w' := fun w1 h1 => zzBare_of _ _ w1 (bare_else _ _ (f 0) _ h0 (h1.cell h0) (beq_no e1) (beq_no e2) (beq_no e3))
  have c8 : ∀ w1 : World, w1.rowIs w.heap.size 5 n (fun j => .int .u8 (f j)) → ∃ (op r x bb ww l om pp v : Int) (ok : Bool), Calls Try.prog 8 #[.slice (some ⟨w.heap.size, 0, none⟩) n n] w1 fun e w' => e = .returned (.tuple #[.agg #[.slice (some ⟨w.heap.size, 0, none⟩) 0 n, .int .i64 0, .int .u8 op, .int .u8 r, .int .u8 x, .int .u8 bb, .int .u8 ww, .int .u8 l, .int .u8 om, .int .u8 pp, .int .u8 v], .bool ok]) ∧ Below w1.heap.size w1 w' := fun w1 h1 => by
    have s : Src w.heap.size n f w1 := ⟨by omega, h1.lt, hr, fun j hj => h1.cell hj⟩
    obtain ⟨sz, op, r, x, bb, ww, l, om, pp, v, ok, hs, c⟩ := zz_bare w.heap.size n f w1 s p
    obtain rfl : sz = 0 := by unfold RdSize at hs; omega
    exact ⟨op, r, x, bb, ww, l, om, pp, v, ok, c⟩
  have hb := bare_lt (hcell 0 h0)
  have hc0 : w.cell? ⟨b, off, none⟩ = some (.int .u8 (f 0)) := by exact hcell 0 h0
  have hpl := p.le
  have q1 := beq_no e1
  have q2 := beq_no e2
  have q3 := beq_no e3
  clear e1 e2 e3
  have q4 : (0 == (n : Int)) = false := beq_no (by omega)
  clear hcell p hr
  go_enter Try.func5, Try.ntmps5
  go_wp2_with (first
    | (go_at_call 12; go_must (refine (bytes12 _ _ _ _ (by omega)).mono ?_); rintro e w' ⟨rfl, rfl⟩)
    | (go_at_call 7; go_must (refine c7.mono ?_); rintro e w1 ⟨rfl, hb1, hrow⟩; have H1 : Hid (w1.rowIs _ 5 n (fun j => .int .u8 (f j))) := hrow; clear hrow)
    | (go_at_call 13; go_must (refine (c13 _ H1.out).mono ?_); rintro e w' ⟨rfl, rfl⟩)
    | (go_at_call 8; obtain ⟨op, r, x, bb, ww, l, om, pp, v, ok, c⟩ := c8 _ H1.out; go_must (refine c.mono ?_); clear c; rintro e w2 ⟨rfl, hb2⟩
       have hd0 : w2.cell? ⟨b, off, none⟩ = some (.int .u8 (f 0)) := cell_later hb2 (cell_later hb1 hc0)
       have hl1 : b < w2.heap.size := Nat.lt_of_lt_of_le hb (Nat.le_trans hb1.size hb2.size)))
  all_goals
    go_ret
    have hbb := hb1.trans (hb2.mono hb1.size)
    exact ⟨rfl, hbb.alloc hbb.size _⟩
end Go.Proofs.Qxb6617393a.Vex
