import Derived.Test.Qxb6617393aShiftBase
namespace Go.Proofs.Qxb6617393a.Vex
open Go.ChangeShapes Go.WideShapes Go.ChangeAt Go.RowKit
set_option linter.unusedVariables false
set_option linter.unusedSimpArgs false

set_option maxHeartbeats 2000000 in
set_option maxRecDepth 20000 in
theorem shift_zp (a : Option Addr) (cap : Nat) (pb : Int) (w : World) (hp : 0 ≤ pb ∧ pb < 256)
    (c7 : ∀ W, Calls Try.prog 7 #[.slice a 0 cap] W fun e w' => (∃ a', e = .returned (.slice a' 0 0)) ∧ Below W.heap.size W w') (hpb : preB pb = true) :
    Calls Try.prog 4 #[.int .u8 pb, .slice a 0 cap] w fun e w' => e = .returned (.bool true) ∧ Below w.heap.size w w' := by
  obtain ⟨W1, hmk0, hrow1, hb1⟩ := made_row 0 (by omega) w
  have hmk : (Instr.makeSlice 22 (.int .i64 1) (.int .i64 1)).run Try.prog w = .ok (.slice (some ⟨w.heap.size, 0, none⟩) 1 1) W1 := hmk0
  have hc0 := hrow1.cell (i := 0) (by omega)
  have hf0 := hrow1.frozen 0
  have HRow2 : Hid ((W1.setCell ⟨w.heap.size, 0, none⟩ (.int .u8 pb)).rowIs w.heap.size 5 1 (fun _ => .int .u8 pb)) := (hrow1.set 0 _).congr (fun j hj => by rw [if_pos (by omega)])
  have HB2 : Hid (Below w.heap.size w (W1.setCell ⟨w.heap.size, 0, none⟩ (.int .u8 pb))) := hb1.setCell (Nat.le_refl _) _
  have HSa : Hid (∀ w1, Below (W1.setCell ⟨w.heap.size, 0, none⟩ (.int .u8 pb)).heap.size (W1.setCell ⟨w.heap.size, 0, none⟩ (.int .u8 pb)) w1 → Src w.heap.size 1 (fun _ => pb) w1) := fun w1 h => src_a (by omega) (fun _ => hp) HRow2.out h
  have c8a : ∀ W, Src w.heap.size 1 (fun _ => pb) W → Calls Try.prog 8 #[.slice (some ⟨w.heap.size, 0, none⟩) 1 1] W fun e w' => e = .returned (.tuple #[.agg #[.slice (some ⟨w.heap.size, 0, none⟩) 1 1, .int .i64 0, .int .u8 0, .int .u8 0, .int .u8 0, .int .u8 0, .int .u8 0, .int .u8 0, .int .u8 0, .int .u8 0, .int .u8 0], .bool false]) ∧ Below W.heap.size W w' := fun W s =>
    zz_0 w.heap.size 1 1 (fun _ => pb) W s ⟨by omega, fun j _ => hpb, fun h => by omega⟩ (by omega) (by omega)
  have hne : (pb != pb) = false := by simp
  clear hmk0 hrow1 hb1
  go_enter Try.func4, Try.ntmps4
  go_wp2_with (first
    | (go_at_call 10; go_must (refine (bytes10 _ _ _ _ _ (by omega)).mono ?_); rintro e w' ⟨rfl, rfl⟩))
  refine wp_loop_rounds 1 ?_
  rw [rounds_succ]
  go_wp2_with (first
    | (go_at_call 7; go_must (refine (c7 _).mono ?_); rintro e w1 ⟨⟨a', rfl⟩, hb1⟩)
    | (go_at_call 8; have HQ := HSa.out; clear HSa; go_must (refine (c8a _ (HQ _ hb1)).mono ?_); rintro e w2 ⟨rfl, hb2⟩)
    | (go_at_call 8; go_must (refine (zz_empty _ _ _).mono ?_); rintro e w3 ⟨rfl, hb3⟩
       have ha0 := cells_new hb3 0 _ rfl; have ha1 := cells_new hb3 1 _ rfl; have ha2 := cells_new hb3 2 _ rfl; have ha3 := cells_new hb3 3 _ rfl; have ha4 := cells_new hb3 4 _ rfl; have ha5 := cells_new hb3 5 _ rfl
       have ha6 := cells_new hb3 6 _ rfl; have ha7 := cells_new hb3 7 _ rfl; have ha8 := cells_new hb3 8 _ rfl; have ha9 := cells_new hb3 9 _ rfl; have ha10 := cells_new hb3 10 _ rfl
       have HX : Hid (TwoZ w w.heap.size w2.heap.size pb w3) := twoz_of HB2.out HRow2.out hb1 hb2 hb3
       have hC0 := HX.out.c0; have hl1 := HX.out.la; have hl3 := HX.out.lc)
    | (go_at_call 9; go_must (refine (seg_keep _ _).mono ?_); rintro e w4 ⟨rfl, rfl⟩)
    | (go_at_call 11; go_must (refine (zzBefore_any _ _).mono ?_); rintro e w4 ⟨rfl, rfl⟩))
  refine wp_loop_rounds 1 ?_
  rw [rounds_succ]
  go_wp2
  go_ret
  exact ⟨rfl, HX.out.below.alloc (Nat.le_of_lt HX.out.la) _⟩

set_option maxHeartbeats 2000000 in
set_option maxRecDepth 20000 in
theorem shift_zx (a : Option Addr) (cap : Nat) (pb : Int) (w : World) (hp : 0 ≤ pb ∧ pb < 256)
    (c7 : ∀ W, Calls Try.prog 7 #[.slice a 0 cap] W fun e w' => (∃ a', e = .returned (.slice a' 0 0)) ∧ Below W.heap.size W w') (hpb : preB pb = false) (hx6 : ¬ pb = 196) (hx7 : ¬ pb = 197) :
    Calls Try.prog 4 #[.int .u8 pb, .slice a 0 cap] w fun e w' => e = .returned (.bool true) ∧ Below w.heap.size w w' := by
  obtain ⟨W1, hmk0, hrow1, hb1⟩ := made_row 0 (by omega) w
  have hmk : (Instr.makeSlice 22 (.int .i64 1) (.int .i64 1)).run Try.prog w = .ok (.slice (some ⟨w.heap.size, 0, none⟩) 1 1) W1 := hmk0
  have hc0 := hrow1.cell (i := 0) (by omega)
  have hf0 := hrow1.frozen 0
  have HRow2 : Hid ((W1.setCell ⟨w.heap.size, 0, none⟩ (.int .u8 pb)).rowIs w.heap.size 5 1 (fun _ => .int .u8 pb)) := (hrow1.set 0 _).congr (fun j hj => by rw [if_pos (by omega)])
  have HB2 : Hid (Below w.heap.size w (W1.setCell ⟨w.heap.size, 0, none⟩ (.int .u8 pb))) := hb1.setCell (Nat.le_refl _) _
  have HSa : Hid (∀ w1, Below (W1.setCell ⟨w.heap.size, 0, none⟩ (.int .u8 pb)).heap.size (W1.setCell ⟨w.heap.size, 0, none⟩ (.int .u8 pb)) w1 → Src w.heap.size 1 (fun _ => pb) w1) := fun w1 h => src_a (by omega) (fun _ => hp) HRow2.out h
  have c8a : ∀ W, Src w.heap.size 1 (fun _ => pb) W → Calls Try.prog 8 #[.slice (some ⟨w.heap.size, 0, none⟩) 1 1] W fun e w' => e = .returned (.tuple #[.agg #[.slice (some ⟨w.heap.size, 0, none⟩) 0 1, .int .i64 0, .int .u8 0, .int .u8 0, .int .u8 0, .int .u8 0, .int .u8 0, .int .u8 0, .int .u8 0, .int .u8 0, .int .u8 0], .bool false]) ∧ Below W.heap.size W w' := fun W s =>
    zz_0 w.heap.size 1 0 (fun _ => pb) W s ⟨by omega, fun j h => by omega, fun _ => hpb⟩ (by omega) (by omega)
  have hne : (pb != pb) = false := by simp
  have hy6 := bne_yes hx6
  have hy7 := bne_yes hx7
  clear hx6 hx7
  clear hmk0 hrow1 hb1
  go_enter Try.func4, Try.ntmps4
  go_wp2_with (first
    | (go_at_call 10; go_must (refine (bytes10 _ _ _ _ _ (by omega)).mono ?_); rintro e w' ⟨rfl, rfl⟩))
  refine wp_loop_rounds 1 ?_
  rw [rounds_succ]
  go_wp2_with (first
    | (go_at_call 7; go_must (refine (c7 _).mono ?_); rintro e w1 ⟨⟨a', rfl⟩, hb1⟩)
    | (go_at_call 8; have HQ := HSa.out; clear HSa; go_must (refine (c8a _ (HQ _ hb1)).mono ?_); rintro e w2 ⟨rfl, hb2⟩)
    | (go_at_call 8; go_must (refine (zz_empty _ _ _).mono ?_); rintro e w3 ⟨rfl, hb3⟩
       have ha0 := cells_new hb3 0 _ rfl; have ha1 := cells_new hb3 1 _ rfl; have ha2 := cells_new hb3 2 _ rfl; have ha3 := cells_new hb3 3 _ rfl; have ha4 := cells_new hb3 4 _ rfl; have ha5 := cells_new hb3 5 _ rfl
       have ha6 := cells_new hb3 6 _ rfl; have ha7 := cells_new hb3 7 _ rfl; have ha8 := cells_new hb3 8 _ rfl; have ha9 := cells_new hb3 9 _ rfl; have ha10 := cells_new hb3 10 _ rfl
       have HX : Hid (TwoZ w w.heap.size w2.heap.size pb w3) := twoz_of HB2.out HRow2.out hb1 hb2 hb3
       have hC0 := HX.out.c0; have hl1 := HX.out.la; have hl3 := HX.out.lc)
    | (go_at_call 9; go_must (refine (seg_keep _ _).mono ?_); rintro e w4 ⟨rfl, rfl⟩)
    | (go_at_call 11; go_must (refine (zzBefore_any _ _).mono ?_); rintro e w4 ⟨rfl, rfl⟩))
  go_ret
  exact ⟨rfl, HX.out.below.alloc (Nat.le_of_lt HX.out.la) _⟩

set_option maxHeartbeats 2000000 in
set_option maxRecDepth 20000 in
theorem shift_z6 (a : Option Addr) (cap : Nat) (pb : Int) (w : World) (hp : 0 ≤ pb ∧ pb < 256)
    (c7 : ∀ W, Calls Try.prog 7 #[.slice a 0 cap] W fun e w' => (∃ a', e = .returned (.slice a' 0 0)) ∧ Below W.heap.size W w') (hpb : preB pb = false) (hx : pb = 196) :
    Calls Try.prog 4 #[.int .u8 pb, .slice a 0 cap] w fun e w' => e = .returned (.bool true) ∧ Below w.heap.size w w' := by
  obtain ⟨W1, hmk0, hrow1, hb1⟩ := made_row 0 (by omega) w
  have hmk : (Instr.makeSlice 22 (.int .i64 1) (.int .i64 1)).run Try.prog w = .ok (.slice (some ⟨w.heap.size, 0, none⟩) 1 1) W1 := hmk0
  have hc0 := hrow1.cell (i := 0) (by omega)
  have hf0 := hrow1.frozen 0
  have HRow2 : Hid ((W1.setCell ⟨w.heap.size, 0, none⟩ (.int .u8 pb)).rowIs w.heap.size 5 1 (fun _ => .int .u8 pb)) := (hrow1.set 0 _).congr (fun j hj => by rw [if_pos (by omega)])
  have HB2 : Hid (Below w.heap.size w (W1.setCell ⟨w.heap.size, 0, none⟩ (.int .u8 pb))) := hb1.setCell (Nat.le_refl _) _
  have HSa : Hid (∀ w1, Below (W1.setCell ⟨w.heap.size, 0, none⟩ (.int .u8 pb)).heap.size (W1.setCell ⟨w.heap.size, 0, none⟩ (.int .u8 pb)) w1 → Src w.heap.size 1 (fun _ => pb) w1) := fun w1 h => src_a (by omega) (fun _ => hp) HRow2.out h
  have c8a : ∀ W, Src w.heap.size 1 (fun _ => pb) W → Calls Try.prog 8 #[.slice (some ⟨w.heap.size, 0, none⟩) 1 1] W fun e w' => e = .returned (.tuple #[.agg #[.slice (some ⟨w.heap.size, 0, none⟩) 0 1, .int .i64 0, .int .u8 0, .int .u8 0, .int .u8 0, .int .u8 0, .int .u8 0, .int .u8 0, .int .u8 0, .int .u8 0, .int .u8 0], .bool false]) ∧ Below W.heap.size W w' := fun W s =>
    zz_0 w.heap.size 1 0 (fun _ => pb) W s ⟨by omega, fun j h => by omega, fun _ => hpb⟩ (by omega) (by omega)
  have hne : (pb != pb) = false := by simp
  have hy6 : (pb != 196) = false := by simpa using hx
  clear hx
  clear hmk0 hrow1 hb1
  go_enter Try.func4, Try.ntmps4
  go_wp2_with (first
    | (go_at_call 10; go_must (refine (bytes10 _ _ _ _ _ (by omega)).mono ?_); rintro e w' ⟨rfl, rfl⟩))
  refine wp_loop_rounds 1 ?_
  rw [rounds_succ]
  go_wp2_with (first
    | (go_at_call 7; go_must (refine (c7 _).mono ?_); rintro e w1 ⟨⟨a', rfl⟩, hb1⟩)
    | (go_at_call 8; have HQ := HSa.out; clear HSa; go_must (refine (c8a _ (HQ _ hb1)).mono ?_); rintro e w2 ⟨rfl, hb2⟩)
    | (go_at_call 8; go_must (refine (zz_empty _ _ _).mono ?_); rintro e w3 ⟨rfl, hb3⟩
       have ha0 := cells_new hb3 0 _ rfl; have ha1 := cells_new hb3 1 _ rfl; have ha2 := cells_new hb3 2 _ rfl; have ha3 := cells_new hb3 3 _ rfl; have ha4 := cells_new hb3 4 _ rfl; have ha5 := cells_new hb3 5 _ rfl
       have ha6 := cells_new hb3 6 _ rfl; have ha7 := cells_new hb3 7 _ rfl; have ha8 := cells_new hb3 8 _ rfl; have ha9 := cells_new hb3 9 _ rfl; have ha10 := cells_new hb3 10 _ rfl
       have HX : Hid (TwoZ w w.heap.size w2.heap.size pb w3) := twoz_of HB2.out HRow2.out hb1 hb2 hb3
       have hC0 := HX.out.c0; have hl1 := HX.out.la; have hl3 := HX.out.lc)
    | (go_at_call 9; go_must (refine (seg_keep _ _).mono ?_); rintro e w4 ⟨rfl, rfl⟩)
    | (go_at_call 11; go_must (refine (zzBefore_any _ _).mono ?_); rintro e w4 ⟨rfl, rfl⟩))
  go_ret
  exact ⟨rfl, HX.out.below.alloc (Nat.le_of_lt HX.out.la) _⟩

set_option maxHeartbeats 2000000 in
set_option maxRecDepth 20000 in
theorem shift_z7 (a : Option Addr) (cap : Nat) (pb : Int) (w : World) (hp : 0 ≤ pb ∧ pb < 256)
    (c7 : ∀ W, Calls Try.prog 7 #[.slice a 0 cap] W fun e w' => (∃ a', e = .returned (.slice a' 0 0)) ∧ Below W.heap.size W w') (hpb : preB pb = false) (hx : pb = 197) :
    Calls Try.prog 4 #[.int .u8 pb, .slice a 0 cap] w fun e w' => e = .returned (.bool true) ∧ Below w.heap.size w w' := by
  obtain ⟨W1, hmk0, hrow1, hb1⟩ := made_row 0 (by omega) w
  have hmk : (Instr.makeSlice 22 (.int .i64 1) (.int .i64 1)).run Try.prog w = .ok (.slice (some ⟨w.heap.size, 0, none⟩) 1 1) W1 := hmk0
  have hc0 := hrow1.cell (i := 0) (by omega)
  have hf0 := hrow1.frozen 0
  have HRow2 : Hid ((W1.setCell ⟨w.heap.size, 0, none⟩ (.int .u8 pb)).rowIs w.heap.size 5 1 (fun _ => .int .u8 pb)) := (hrow1.set 0 _).congr (fun j hj => by rw [if_pos (by omega)])
  have HB2 : Hid (Below w.heap.size w (W1.setCell ⟨w.heap.size, 0, none⟩ (.int .u8 pb))) := hb1.setCell (Nat.le_refl _) _
  have HSa : Hid (∀ w1, Below (W1.setCell ⟨w.heap.size, 0, none⟩ (.int .u8 pb)).heap.size (W1.setCell ⟨w.heap.size, 0, none⟩ (.int .u8 pb)) w1 → Src w.heap.size 1 (fun _ => pb) w1) := fun w1 h => src_a (by omega) (fun _ => hp) HRow2.out h
  have c8a : ∀ W, Src w.heap.size 1 (fun _ => pb) W → Calls Try.prog 8 #[.slice (some ⟨w.heap.size, 0, none⟩) 1 1] W fun e w' => e = .returned (.tuple #[.agg #[.slice (some ⟨w.heap.size, 0, none⟩) 0 1, .int .i64 0, .int .u8 0, .int .u8 0, .int .u8 0, .int .u8 0, .int .u8 0, .int .u8 0, .int .u8 0, .int .u8 0, .int .u8 0], .bool false]) ∧ Below W.heap.size W w' := fun W s =>
    zz_0 w.heap.size 1 0 (fun _ => pb) W s ⟨by omega, fun j h => by omega, fun _ => hpb⟩ (by omega) (by omega)
  have hne : (pb != pb) = false := by simp
  have hy6 : (pb != 196) = true := bne_yes (by omega)
  have hy7 : (pb != 197) = false := by simpa using hx
  clear hx
  clear hmk0 hrow1 hb1
  go_enter Try.func4, Try.ntmps4
  go_wp2_with (first
    | (go_at_call 10; go_must (refine (bytes10 _ _ _ _ _ (by omega)).mono ?_); rintro e w' ⟨rfl, rfl⟩))
  refine wp_loop_rounds 1 ?_
  rw [rounds_succ]
  go_wp2_with (first
    | (go_at_call 7; go_must (refine (c7 _).mono ?_); rintro e w1 ⟨⟨a', rfl⟩, hb1⟩)
    | (go_at_call 8; have HQ := HSa.out; clear HSa; go_must (refine (c8a _ (HQ _ hb1)).mono ?_); rintro e w2 ⟨rfl, hb2⟩)
    | (go_at_call 8; go_must (refine (zz_empty _ _ _).mono ?_); rintro e w3 ⟨rfl, hb3⟩
       have ha0 := cells_new hb3 0 _ rfl; have ha1 := cells_new hb3 1 _ rfl; have ha2 := cells_new hb3 2 _ rfl; have ha3 := cells_new hb3 3 _ rfl; have ha4 := cells_new hb3 4 _ rfl; have ha5 := cells_new hb3 5 _ rfl
       have ha6 := cells_new hb3 6 _ rfl; have ha7 := cells_new hb3 7 _ rfl; have ha8 := cells_new hb3 8 _ rfl; have ha9 := cells_new hb3 9 _ rfl; have ha10 := cells_new hb3 10 _ rfl
       have HX : Hid (TwoZ w w.heap.size w2.heap.size pb w3) := twoz_of HB2.out HRow2.out hb1 hb2 hb3
       have hC0 := HX.out.c0; have hl1 := HX.out.la; have hl3 := HX.out.lc)
    | (go_at_call 9; go_must (refine (seg_keep _ _).mono ?_); rintro e w4 ⟨rfl, rfl⟩)
    | (go_at_call 11; go_must (refine (zzBefore_any _ _).mono ?_); rintro e w4 ⟨rfl, rfl⟩))
  go_ret
  exact ⟨rfl, HX.out.below.alloc (Nat.le_of_lt HX.out.la) _⟩

end Go.Proofs.Qxb6617393a.Vex
