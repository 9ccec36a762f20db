import Derived.Test.Qxb6617393aShiftBase
namespace Go.Proofs.Qxb6617393a.Vex
open Go.ChangeShapes Go.WideShapes Go.ChangeAt Go.RowKit
set_option linter.unusedVariables false
set_option linter.unusedSimpArgs false

set_option maxHeartbeats 2000000 in
set_option maxRecDepth 20000 in
theorem shift_nx (b off n cap m : Nat) (pb : Int) (f : Nat → Int) (w : World) (hn : n ≤ 1048576) (h0 : 0 < n) (hp : 0 ≤ pb ∧ pb < 256) (hr : ∀ k, 0 ≤ f k ∧ f k < 256)
    (hcell : ∀ j, j < n → w.cell? ⟨b, off + j, none⟩ = some (.int .u8 (f j))) (p : Pre f n m) (hpb : preB pb = false) (hx6 : ¬ pb = 196) (hx7 : ¬ pb = 197) :
    Calls Try.prog 4 #[.int .u8 pb, .slice (some ⟨b, off, none⟩) n cap] w fun e w' => e = .returned (.bool true) ∧ Below w.heap.size w w' := by
  obtain ⟨W1, hmk, hrow1, hb1⟩ := made_row n hn w
  have c7 : ∀ W, Below w.heap.size w W → _ := fun W h => clone_row b off n cap f W hn (fun j hj => cell_later h (hcell j hj))
  have c8a : ∀ W, Src w.heap.size (n + 1) (cons pb f) W → Calls Try.prog 8 #[.slice (some ⟨w.heap.size, 0, none⟩) (n + 1) (n + 1)] W fun e w' => e = .returned (.tuple #[.agg #[.slice (some ⟨w.heap.size, 0, none⟩) 0 (n + 1), .int .i64 0, .int .u8 0, .int .u8 0, .int .u8 0, .int .u8 0, .int .u8 0, .int .u8 0, .int .u8 0, .int .u8 0, .int .u8 0], .bool false]) ∧ Below W.heap.size W w' := fun W s =>
    zz_0 w.heap.size (n + 1) 0 (cons pb f) W s (cons_pre0 hpb) (fun h => hx7 h.2) (fun h => hx6 h.2)
  have c8b : ∀ W D, Src D n f W → ∃ (sz op r x bb ww l om pp v : Int) (ok : Bool), Calls Try.prog 8 #[.slice (some ⟨D, 0, none⟩) n n] W fun e w' => e = .returned (.tuple #[.agg #[.slice (some ⟨D, 0, none⟩) m n, .int .i64 sz, .int .u8 op, .int .u8 r, .int .u8 x, .int .u8 bb, .int .u8 ww, .int .u8 l, .int .u8 om, .int .u8 pp, .int .u8 v], .bool ok]) ∧ Below W.heap.size W w' := fun W D s => zz_at D n m f W s p
  have hc0 := hrow1.cell (i := 0) (by omega)
  have hf0 := hrow1.frozen 0
  have HRow1 : Hid (W1.rowIs w.heap.size 5 (n + 1) (fun _ => .int .u8 0)) := hrow1
  have HB1 : Hid (Below w.heap.size w W1) := hb1
  have HCell : Hid (∀ j, j < n → w.cell? ⟨b, off + j, none⟩ = some (.int .u8 (f j))) := hcell
  have HR : Hid (∀ k, 0 ≤ f k ∧ f k < 256) := hr
  have hpl := p.le
  clear hcell p hrow1 hb1 hr
  go_enter Try.func4, Try.ntmps4
  go_wp2_with (first
    | (go_at_call 10; go_must (refine (bytes10 _ _ _ _ _ (by omega)).mono ?_); rintro e w' ⟨rfl, rfl⟩))
  go_loopw [6] (fun i wr => ∃ k : Nat, k ≤ n ∧ i = .int .i64 k ∧ Below w.heap.size w wr ∧ wr.rowIs w.heap.size 5 (n + 1) (fun j => .int .u8 (if j ≤ k then cons pb f j else 0))) (fun i _ => n - (intOf i).toNat)
  case atStart =>
    refine ⟨0, by omega, rfl, HB1.out.setCell (Nat.le_refl _) _, (HRow1.out.set 0 _).congr (fun j hj => ?_)⟩
    show (if j = 0 then Value.int .u8 pb else Value.int .u8 0) = Value.int .u8 (if j ≤ 0 then cons pb f j else 0)
    by_cases e : j = 0
    · subst e; rfl
    · rw [if_neg e, if_neg (by omega)]
  case round =>
    obtain ⟨k, hk, rfl, hbel, hrow⟩ := hrel
    have HRow : Hid (wr.rowIs w.heap.size 5 (n + 1) (fun j => .int .u8 (if j ≤ k then cons pb f j else 0))) := hrow
    by_cases hlt : k < n
    · have hc : wr.cell? ⟨b, off + k, none⟩ = some (.int .u8 (f k)) := cell_later hbel (HCell.out k hlt)
      have hd : wr.cell? ⟨w.heap.size, k + 1, none⟩ = some (.int .u8 (if k + 1 ≤ k then cons pb f (k + 1) else 0)) := hrow.cell (by omega)
      have hf := hrow.frozen (k + 1)
      clear hrow hc0 hf0 hmk
      rw [if_neg (by omega)] at hd
      go_wp2
      go_roundw
      case rel =>
        refine ⟨k + 1, by omega, by go_num, hbel.setCell (Nat.le_refl _) _, (HRow.out.set (k + 1) _).congr (fun j hj => ?_)⟩
        show (if j = k + 1 then Value.int .u8 (f k) else Value.int .u8 (if j ≤ k then cons pb f j else 0)) = Value.int .u8 (if j ≤ k + 1 then cons pb f j else 0)
        by_cases e : j = k + 1
        · subst e; rw [if_pos rfl, if_pos (Nat.le_refl _), cons_succ]
        · rw [if_neg e]
          by_cases e2 : j ≤ k
          · rw [if_pos e2, if_pos (by omega)]
          · rw [if_neg e2, if_neg (by omega)]
      case measure => simp [intOf]; omega
    · obtain rfl : k = n := by omega
      have HRowC : Hid (wr.rowIs w.heap.size 5 (k + 1) (fun j => .int .u8 (cons pb f j))) := hrow.congr (fun j hj => by rw [if_pos (by omega)])
      clear hrow HRow hk hlt hc0 hf0 hmk
      have hy6 := bne_yes hx6
      have hy7 := bne_yes hx7
      clear hx6 hx7
      go_wp2_with (first
        | (go_at_call 7; go_must (refine (c7 _ hbel).mono ?_); rintro e w1 ⟨rfl, hb1, hrow⟩; have HSa : Hid (Src w.heap.size (k + 1) (cons pb f) w1) := src_a (by omega) (cons_byte hp HR.out) HRowC.out hb1; have HSb : Hid (Src wr.heap.size k f w1) := src_b (by omega) HR.out hrow; clear hrow)
        | (go_at_call 8; have HQ := HSa.out; clear HSa; go_must (refine (c8a _ HQ).mono ?_); rintro e w2 ⟨rfl, hb2⟩)
        | (go_at_call 8; have HQ := HSb.out; clear HSb; obtain ⟨sz, op, r, x, bb, ww, l, om, pp, v, ok, c⟩ := c8b _ _ (src_step HQ hb2 _); go_must (refine c.mono ?_); clear c; rintro e w3 ⟨rfl, hb3⟩
           have ha0 := cells_new hb3 0 _ rfl; have ha1 := cells_new hb3 1 _ rfl; have ha2 := cells_new hb3 2 _ rfl; have ha3 := cells_new hb3 3 _ rfl; have ha4 := cells_new hb3 4 _ rfl; have ha5 := cells_new hb3 5 _ rfl
           have ha6 := cells_new hb3 6 _ rfl; have ha7 := cells_new hb3 7 _ rfl; have ha8 := cells_new hb3 8 _ rfl; have ha9 := cells_new hb3 9 _ rfl; have ha10 := cells_new hb3 10 _ rfl
           have HX : Hid (Three w w.heap.size wr.heap.size w2.heap.size k pb f w3) := three_of hbel HRowC.out hb1 HQ hb2 hb3
           have hC0 := HX.out.c0; have hl1 := HX.out.la; have hl2 := HX.out.lb; have hl3 := HX.out.lc)
        | (go_at_call 9; go_must (refine (seg_keep _ _).mono ?_); rintro e w4 ⟨rfl, rfl⟩)
        | (go_at_call 11; go_must (refine (zzBefore_any _ _).mono ?_); rintro e w4 ⟨rfl, rfl⟩))
      go_ret
      exact ⟨rfl, HX.out.below.alloc (Nat.le_of_lt HX.out.la) _⟩

set_option maxHeartbeats 2000000 in
set_option maxRecDepth 20000 in
theorem shift_n6 (b off n cap m : Nat) (pb : Int) (f : Nat → Int) (w : World) (hn : n ≤ 1048576) (h0 : 0 < n) (hp : 0 ≤ pb ∧ pb < 256) (hr : ∀ k, 0 ≤ f k ∧ f k < 256)
    (hcell : ∀ j, j < n → w.cell? ⟨b, off + j, none⟩ = some (.int .u8 (f j))) (p : Pre f n m) (hpb : preB pb = false) (hx : pb = 196) :
    Calls Try.prog 4 #[.int .u8 pb, .slice (some ⟨b, off, none⟩) n cap] w fun e w' => e = .returned (.bool true) ∧ Below w.heap.size w w' := by
  obtain ⟨W1, hmk, hrow1, hb1⟩ := made_row n hn w
  have c7 : ∀ W, Below w.heap.size w W → _ := fun W h => clone_row b off n cap f W hn (fun j hj => cell_later h (hcell j hj))
  have c8a : ∀ W, Src w.heap.size (n + 1) (cons pb f) W → ∃ (sz op r x bb ww l om pp v : Int) (ok : Bool), Calls Try.prog 8 #[.slice (some ⟨w.heap.size, 0, none⟩) (n + 1) (n + 1)] W fun e w' => e = .returned (.tuple #[.agg #[.slice (some ⟨w.heap.size, 0, none⟩) 0 (n + 1), .int .i64 sz, .int .u8 op, .int .u8 r, .int .u8 x, .int .u8 bb, .int .u8 ww, .int .u8 l, .int .u8 om, .int .u8 pp, .int .u8 v], .bool ok]) ∧ Below W.heap.size W w' := fun W s => zz_at w.heap.size (n + 1) 0 (cons pb f) W s (cons_pre0 hpb)
  have c8b : ∀ W D, Src D n f W → ∃ (sz op r x bb ww l om pp v : Int) (ok : Bool), Calls Try.prog 8 #[.slice (some ⟨D, 0, none⟩) n n] W fun e w' => e = .returned (.tuple #[.agg #[.slice (some ⟨D, 0, none⟩) m n, .int .i64 sz, .int .u8 op, .int .u8 r, .int .u8 x, .int .u8 bb, .int .u8 ww, .int .u8 l, .int .u8 om, .int .u8 pp, .int .u8 v], .bool ok]) ∧ Below W.heap.size W w' := fun W D s => zz_at D n m f W s p
  have hc0 := hrow1.cell (i := 0) (by omega)
  have hf0 := hrow1.frozen 0
  have HRow1 : Hid (W1.rowIs w.heap.size 5 (n + 1) (fun _ => .int .u8 0)) := hrow1
  have HB1 : Hid (Below w.heap.size w W1) := hb1
  have HCell : Hid (∀ j, j < n → w.cell? ⟨b, off + j, none⟩ = some (.int .u8 (f j))) := hcell
  have HR : Hid (∀ k, 0 ≤ f k ∧ f k < 256) := hr
  have hpl := p.le
  have HX6 : Hid (pb = 196) := hx
  clear hx
  clear hcell p hrow1 hb1 hr
  go_enter Try.func4, Try.ntmps4
  go_wp2_with (first
    | (go_at_call 10; go_must (refine (bytes10 _ _ _ _ _ (by omega)).mono ?_); rintro e w' ⟨rfl, rfl⟩))
  go_loopw [6] (fun i wr => ∃ k : Nat, k ≤ n ∧ i = .int .i64 k ∧ Below w.heap.size w wr ∧ wr.rowIs w.heap.size 5 (n + 1) (fun j => .int .u8 (if j ≤ k then cons pb f j else 0))) (fun i _ => n - (intOf i).toNat)
  case atStart =>
    refine ⟨0, by omega, rfl, HB1.out.setCell (Nat.le_refl _) _, (HRow1.out.set 0 _).congr (fun j hj => ?_)⟩
    show (if j = 0 then Value.int .u8 pb else Value.int .u8 0) = Value.int .u8 (if j ≤ 0 then cons pb f j else 0)
    by_cases e : j = 0
    · subst e; rfl
    · rw [if_neg e, if_neg (by omega)]
  case round =>
    obtain ⟨k, hk, rfl, hbel, hrow⟩ := hrel
    have HRow : Hid (wr.rowIs w.heap.size 5 (n + 1) (fun j => .int .u8 (if j ≤ k then cons pb f j else 0))) := hrow
    by_cases hlt : k < n
    · have hc : wr.cell? ⟨b, off + k, none⟩ = some (.int .u8 (f k)) := cell_later hbel (HCell.out k hlt)
      have hd : wr.cell? ⟨w.heap.size, k + 1, none⟩ = some (.int .u8 (if k + 1 ≤ k then cons pb f (k + 1) else 0)) := hrow.cell (by omega)
      have hf := hrow.frozen (k + 1)
      clear hrow hc0 hf0 hmk
      rw [if_neg (by omega)] at hd
      go_wp2
      go_roundw
      case rel =>
        refine ⟨k + 1, by omega, by go_num, hbel.setCell (Nat.le_refl _) _, (HRow.out.set (k + 1) _).congr (fun j hj => ?_)⟩
        show (if j = k + 1 then Value.int .u8 (f k) else Value.int .u8 (if j ≤ k then cons pb f j else 0)) = Value.int .u8 (if j ≤ k + 1 then cons pb f j else 0)
        by_cases e : j = k + 1
        · subst e; rw [if_pos rfl, if_pos (Nat.le_refl _), cons_succ]
        · rw [if_neg e]
          by_cases e2 : j ≤ k
          · rw [if_pos e2, if_pos (by omega)]
          · rw [if_neg e2, if_neg (by omega)]
      case measure => simp [intOf]; omega
    · obtain rfl : k = n := by omega
      have HRowC : Hid (wr.rowIs w.heap.size 5 (k + 1) (fun j => .int .u8 (cons pb f j))) := hrow.congr (fun j hj => by rw [if_pos (by omega)])
      clear hrow HRow hk hlt hc0 hf0 hmk
      have hy6 : (pb != 196) = false := by simpa using HX6.out
      go_wp2_with (first
        | (go_at_call 7; go_must (refine (c7 _ hbel).mono ?_); rintro e w1 ⟨rfl, hb1, hrow⟩; have HSa : Hid (Src w.heap.size (k + 1) (cons pb f) w1) := src_a (by omega) (cons_byte hp HR.out) HRowC.out hb1; have HSb : Hid (Src wr.heap.size k f w1) := src_b (by omega) HR.out hrow; clear hrow)
        | (go_at_call 8; have HQ := HSa.out; clear HSa; obtain ⟨za, ab, ac, ad, ae, af, ag, ah, ai, aj, ao, c⟩ := c8a _ HQ; go_must (refine c.mono ?_); clear c; rintro e w2 ⟨rfl, hb2⟩)
        | (go_at_call 8; have HQ := HSb.out; clear HSb; obtain ⟨sz, op, r, x, bb, ww, l, om, pp, v, ok, c⟩ := c8b _ _ (src_step HQ hb2 _); go_must (refine c.mono ?_); clear c; rintro e w3 ⟨rfl, hb3⟩
           have ha0 := cells_new hb3 0 _ rfl; have ha1 := cells_new hb3 1 _ rfl; have ha2 := cells_new hb3 2 _ rfl; have ha3 := cells_new hb3 3 _ rfl; have ha4 := cells_new hb3 4 _ rfl; have ha5 := cells_new hb3 5 _ rfl
           have ha6 := cells_new hb3 6 _ rfl; have ha7 := cells_new hb3 7 _ rfl; have ha8 := cells_new hb3 8 _ rfl; have ha9 := cells_new hb3 9 _ rfl; have ha10 := cells_new hb3 10 _ rfl
           have HX : Hid (Three w w.heap.size wr.heap.size w2.heap.size k pb f w3) := three_of hbel HRowC.out hb1 HQ hb2 hb3
           have hC0 := HX.out.c0; have hl1 := HX.out.la; have hl2 := HX.out.lb; have hl3 := HX.out.lc)
        | (go_at_call 9; go_must (refine (seg_keep _ _).mono ?_); rintro e w4 ⟨rfl, rfl⟩)
        | (go_at_call 11; go_must (refine (zzBefore_any _ _).mono ?_); rintro e w4 ⟨rfl, rfl⟩))
      go_ret
      exact ⟨rfl, HX.out.below.alloc (Nat.le_of_lt HX.out.la) _⟩

set_option maxHeartbeats 2000000 in
set_option maxRecDepth 20000 in
theorem shift_n7 (b off n cap m : Nat) (pb : Int) (f : Nat → Int) (w : World) (hn : n ≤ 1048576) (h0 : 0 < n) (hp : 0 ≤ pb ∧ pb < 256) (hr : ∀ k, 0 ≤ f k ∧ f k < 256)
    (hcell : ∀ j, j < n → w.cell? ⟨b, off + j, none⟩ = some (.int .u8 (f j))) (p : Pre f n m) (hpb : preB pb = false) (hx : pb = 197) :
    Calls Try.prog 4 #[.int .u8 pb, .slice (some ⟨b, off, none⟩) n cap] w fun e w' => e = .returned (.bool true) ∧ Below w.heap.size w w' := by
  obtain ⟨W1, hmk, hrow1, hb1⟩ := made_row n hn w
  have c7 : ∀ W, Below w.heap.size w W → _ := fun W h => clone_row b off n cap f W hn (fun j hj => cell_later h (hcell j hj))
  have c8a : ∀ W, Src w.heap.size (n + 1) (cons pb f) W → ∃ (sz op r x bb ww l om pp v : Int) (ok : Bool), Calls Try.prog 8 #[.slice (some ⟨w.heap.size, 0, none⟩) (n + 1) (n + 1)] W fun e w' => e = .returned (.tuple #[.agg #[.slice (some ⟨w.heap.size, 0, none⟩) 0 (n + 1), .int .i64 sz, .int .u8 op, .int .u8 r, .int .u8 x, .int .u8 bb, .int .u8 ww, .int .u8 l, .int .u8 om, .int .u8 pp, .int .u8 v], .bool ok]) ∧ Below W.heap.size W w' := fun W s => zz_at w.heap.size (n + 1) 0 (cons pb f) W s (cons_pre0 hpb)
  have c8b : ∀ W D, Src D n f W → ∃ (sz op r x bb ww l om pp v : Int) (ok : Bool), Calls Try.prog 8 #[.slice (some ⟨D, 0, none⟩) n n] W fun e w' => e = .returned (.tuple #[.agg #[.slice (some ⟨D, 0, none⟩) m n, .int .i64 sz, .int .u8 op, .int .u8 r, .int .u8 x, .int .u8 bb, .int .u8 ww, .int .u8 l, .int .u8 om, .int .u8 pp, .int .u8 v], .bool ok]) ∧ Below W.heap.size W w' := fun W D s => zz_at D n m f W s p
  have hc0 := hrow1.cell (i := 0) (by omega)
  have hf0 := hrow1.frozen 0
  have HRow1 : Hid (W1.rowIs w.heap.size 5 (n + 1) (fun _ => .int .u8 0)) := hrow1
  have HB1 : Hid (Below w.heap.size w W1) := hb1
  have HCell : Hid (∀ j, j < n → w.cell? ⟨b, off + j, none⟩ = some (.int .u8 (f j))) := hcell
  have HR : Hid (∀ k, 0 ≤ f k ∧ f k < 256) := hr
  have hpl := p.le
  have HX6 : Hid (pb = 197) := hx
  clear hx
  clear hcell p hrow1 hb1 hr
  go_enter Try.func4, Try.ntmps4
  go_wp2_with (first
    | (go_at_call 10; go_must (refine (bytes10 _ _ _ _ _ (by omega)).mono ?_); rintro e w' ⟨rfl, rfl⟩))
  go_loopw [6] (fun i wr => ∃ k : Nat, k ≤ n ∧ i = .int .i64 k ∧ Below w.heap.size w wr ∧ wr.rowIs w.heap.size 5 (n + 1) (fun j => .int .u8 (if j ≤ k then cons pb f j else 0))) (fun i _ => n - (intOf i).toNat)
  case atStart =>
    refine ⟨0, by omega, rfl, HB1.out.setCell (Nat.le_refl _) _, (HRow1.out.set 0 _).congr (fun j hj => ?_)⟩
    show (if j = 0 then Value.int .u8 pb else Value.int .u8 0) = Value.int .u8 (if j ≤ 0 then cons pb f j else 0)
    by_cases e : j = 0
    · subst e; rfl
    · rw [if_neg e, if_neg (by omega)]
  case round =>
    obtain ⟨k, hk, rfl, hbel, hrow⟩ := hrel
    have HRow : Hid (wr.rowIs w.heap.size 5 (n + 1) (fun j => .int .u8 (if j ≤ k then cons pb f j else 0))) := hrow
    by_cases hlt : k < n
    · have hc : wr.cell? ⟨b, off + k, none⟩ = some (.int .u8 (f k)) := cell_later hbel (HCell.out k hlt)
      have hd : wr.cell? ⟨w.heap.size, k + 1, none⟩ = some (.int .u8 (if k + 1 ≤ k then cons pb f (k + 1) else 0)) := hrow.cell (by omega)
      have hf := hrow.frozen (k + 1)
      clear hrow hc0 hf0 hmk
      rw [if_neg (by omega)] at hd
      go_wp2
      go_roundw
      case rel =>
        refine ⟨k + 1, by omega, by go_num, hbel.setCell (Nat.le_refl _) _, (HRow.out.set (k + 1) _).congr (fun j hj => ?_)⟩
        show (if j = k + 1 then Value.int .u8 (f k) else Value.int .u8 (if j ≤ k then cons pb f j else 0)) = Value.int .u8 (if j ≤ k + 1 then cons pb f j else 0)
        by_cases e : j = k + 1
        · subst e; rw [if_pos rfl, if_pos (Nat.le_refl _), cons_succ]
        · rw [if_neg e]
          by_cases e2 : j ≤ k
          · rw [if_pos e2, if_pos (by omega)]
          · rw [if_neg e2, if_neg (by omega)]
      case measure => simp [intOf]; omega
    · obtain rfl : k = n := by omega
      have HRowC : Hid (wr.rowIs w.heap.size 5 (k + 1) (fun j => .int .u8 (cons pb f j))) := hrow.congr (fun j hj => by rw [if_pos (by omega)])
      clear hrow HRow hk hlt hc0 hf0 hmk
      have hy6 : (pb != 196) = true := bne_yes (by have := HX6.out; omega)
      have hy7 : (pb != 197) = false := by simpa using HX6.out
      go_wp2_with (first
        | (go_at_call 7; go_must (refine (c7 _ hbel).mono ?_); rintro e w1 ⟨rfl, hb1, hrow⟩; have HSa : Hid (Src w.heap.size (k + 1) (cons pb f) w1) := src_a (by omega) (cons_byte hp HR.out) HRowC.out hb1; have HSb : Hid (Src wr.heap.size k f w1) := src_b (by omega) HR.out hrow; clear hrow)
        | (go_at_call 8; have HQ := HSa.out; clear HSa; obtain ⟨za, ab, ac, ad, ae, af, ag, ah, ai, aj, ao, c⟩ := c8a _ HQ; go_must (refine c.mono ?_); clear c; rintro e w2 ⟨rfl, hb2⟩)
        | (go_at_call 8; have HQ := HSb.out; clear HSb; obtain ⟨sz, op, r, x, bb, ww, l, om, pp, v, ok, c⟩ := c8b _ _ (src_step HQ hb2 _); go_must (refine c.mono ?_); clear c; rintro e w3 ⟨rfl, hb3⟩
           have ha0 := cells_new hb3 0 _ rfl; have ha1 := cells_new hb3 1 _ rfl; have ha2 := cells_new hb3 2 _ rfl; have ha3 := cells_new hb3 3 _ rfl; have ha4 := cells_new hb3 4 _ rfl; have ha5 := cells_new hb3 5 _ rfl
           have ha6 := cells_new hb3 6 _ rfl; have ha7 := cells_new hb3 7 _ rfl; have ha8 := cells_new hb3 8 _ rfl; have ha9 := cells_new hb3 9 _ rfl; have ha10 := cells_new hb3 10 _ rfl
           have HX : Hid (Three w w.heap.size wr.heap.size w2.heap.size k pb f w3) := three_of hbel HRowC.out hb1 HQ hb2 hb3
           have hC0 := HX.out.c0; have hl1 := HX.out.la; have hl2 := HX.out.lb; have hl3 := HX.out.lc)
        | (go_at_call 9; go_must (refine (seg_keep _ _).mono ?_); rintro e w4 ⟨rfl, rfl⟩)
        | (go_at_call 11; go_must (refine (zzBefore_any _ _).mono ?_); rintro e w4 ⟨rfl, rfl⟩))
      go_ret
      exact ⟨rfl, HX.out.below.alloc (Nat.le_of_lt HX.out.la) _⟩

end Go.Proofs.Qxb6617393a.Vex
