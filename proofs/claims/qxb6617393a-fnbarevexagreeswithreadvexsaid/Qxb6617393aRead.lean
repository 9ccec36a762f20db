import Derived.Test.Qxb6617393aVex
import Derived.Deep.QuietTactic
import Derived.BigQuiet
namespace Go.Proofs.Qxb6617393a.Vex
open Go.ChangeShapes Go.WideShapes Go.ChangeAt Go.RowKit
set_option linter.unusedVariables false

/-! ### the fields, as arithmetic -/
def vr (c : Int) : Int := 1 - c / 128
def vx (c : Int) : Int := 1 - c / 64 % 2
def vb (c : Int) : Int := 1 - c / 32 % 2
def vl (c : Int) : Int := c / 4 % 2
def vp (c : Int) : Int := c % 4
def vv (c : Int) : Int := 15 - c / 8 % 16
def vo (c : Int) : Int := c % 32
def vw (c : Int) : Int := c / 128
theorem fin_of {P : Int → Prop} (h : ∀ n : Fin 256, P (n.val : Int)) (c : Int) (h0 : 0 ≤ c) (h1 : c < 256) : P c := by
  have := h ⟨c.toNat, by omega⟩
  simpa [Int.toNat_of_nonneg h0] using this
theorem r_of (c : Int) (h0 : 0 ≤ c) (h1 : c < 256) : bits BinOp.and IntKind.u8 (bits BinOp.xor IntKind.u8 IntKind.u8.max c / 128) 1 = vr c :=
  fin_of (P := fun c => bits BinOp.and IntKind.u8 (bits BinOp.xor IntKind.u8 IntKind.u8.max c / 128) 1 = vr c) (by decide +kernel) c h0 h1
theorem x_of (c : Int) (h0 : 0 ≤ c) (h1 : c < 256) : bits BinOp.and IntKind.u8 (bits BinOp.xor IntKind.u8 IntKind.u8.max c / 64) 1 = vx c :=
  fin_of (P := fun c => bits BinOp.and IntKind.u8 (bits BinOp.xor IntKind.u8 IntKind.u8.max c / 64) 1 = vx c) (by decide +kernel) c h0 h1
theorem b_of (c : Int) (h0 : 0 ≤ c) (h1 : c < 256) : bits BinOp.and IntKind.u8 (bits BinOp.xor IntKind.u8 IntKind.u8.max c / 32) 1 = vb c :=
  fin_of (P := fun c => bits BinOp.and IntKind.u8 (bits BinOp.xor IntKind.u8 IntKind.u8.max c / 32) 1 = vb c) (by decide +kernel) c h0 h1
theorem v_of (c : Int) (h0 : 0 ≤ c) (h1 : c < 256) : bits BinOp.and IntKind.u8 (bits BinOp.xor IntKind.u8 IntKind.u8.max c / 8) 15 = vv c :=
  fin_of (P := fun c => bits BinOp.and IntKind.u8 (bits BinOp.xor IntKind.u8 IntKind.u8.max c / 8) 15 = vv c) (by decide +kernel) c h0 h1
theorem l_of (c : Int) (h0 : 0 ≤ c) (h1 : c < 256) : bits BinOp.and IntKind.u8 (c / 4) 1 = vl c :=
  fin_of (P := fun c => bits BinOp.and IntKind.u8 (c / 4) 1 = vl c) (by decide +kernel) c h0 h1
theorem p_of (c : Int) (h0 : 0 ≤ c) (h1 : c < 256) : bits BinOp.and IntKind.u8 c 3 = vp c :=
  fin_of (P := fun c => bits BinOp.and IntKind.u8 c 3 = vp c) (by decide +kernel) c h0 h1
theorem o_of (c : Int) (h0 : 0 ≤ c) (h1 : c < 256) : bits BinOp.and IntKind.u8 c 31 = vo c :=
  fin_of (P := fun c => bits BinOp.and IntKind.u8 c 31 = vo c) (by decide +kernel) c h0 h1

theorem beq_no {a : Int} {c : Int} (h : a ≠ c) : (a == c) = false := by simpa using h

/-! ### readVEX, way by way -/
set_option maxHeartbeats 1000000 in
set_option maxRecDepth 20000 in
theorem read_2a (b n m : Nat) (f : Nat → Int) (w : World) (hn : n ≤ 1048577) (hb : b < w.heap.size) (hr : ∀ k, 0 ≤ f k ∧ f k < 256)
    (hcell : ∀ j, j < n → w.cell? ⟨b, j, none⟩ = some (.int .u8 (f j)))
    (hpre : ∀ j, j < m → preB (f j) = true) (hm : m + 2 < n) (h5 : f m = 197) :
    Calls Try.prog 14 #[.slice (some ⟨b, 0, none⟩) n n] w fun e w' => e = .returned (.tuple #[.agg #[.slice (some ⟨b, 0, none⟩) m n, .int .i64 ((m : Int) + 2), .int .u8 (f (m + 2)), .int .u8 (vr (f (m + 1))), .int .u8 0, .int .u8 0, .int .u8 0, .int .u8 (vl (f (m + 1))), .int .u8 1, .int .u8 (vp (f (m + 1))), .int .u8 (vv (f (m + 1)))], .bool true]) ∧ Below w.heap.size w w' := by
  have HCell : Hid (∀ j, j < n → w.cell? ⟨b, j, none⟩ = some (.int .u8 (f j))) := hcell
  have HP : Hid (∀ j, j < m → preB (f j) = true) := hpre
  clear hcell hpre
  have hcm : w.cell? ⟨b, m, none⟩ = some (.int .u8 197) := by rw [← h5]; exact HCell.out m (by omega)
  have hc1 : w.cell? ⟨b, m + 1, none⟩ = some (.int .u8 (f (m + 1))) := HCell.out (m + 1) (by omega)
  have hs : preB 197 = false := by decide
  have hz : ((m : Int) + 2 == 0) = false := beq_no (by omega)
  have xr := r_of (f (m + 1)) (hr _).1 (hr _).2
  have xl := l_of (f (m + 1)) (hr _).1 (hr _).2
  have xp := p_of (f (m + 1)) (hr _).1 (hr _).2
  have xv := v_of (f (m + 1)) (hr _).1 (hr _).2
  have hc2 : w.cell? ⟨b, m + 2, none⟩ = some (.int .u8 (f (m + 2))) := HCell.out (m + 2) (by omega)
  clear h5 hr
  go_enter Try.func14, Try.ntmps14
  go_wp2
  go_loop [5] (fun i => ∃ k : Nat, k ≤ m ∧ i = .int .i64 k) (fun i => m - (intOf i).toNat)
  case atStart => exact ⟨0, by omega, rfl⟩
  case round =>
    obtain ⟨k, hk, rfl⟩ := hrel
    by_cases hlt : k < m
    · have hck : w.cell? ⟨b, k, none⟩ = some (.int .u8 (f k)) := HCell.out k (by omega)
      have hpk := HP.out k hlt
      go_wp2_with (go_at_call 15; refine (before_any _ _).mono ?_; rintro e w' ⟨rfl, rfl⟩)
      go_round
      case rel => exact ⟨k + 1, by omega, by go_num⟩
      case measure => simp [intOf]; omega
    · obtain rfl : k = m := by omega
      clear hk hlt HP
      go_wp2_with (go_at_call 15; refine (before_any _ _).mono ?_; rintro e w' ⟨rfl, rfl⟩)
      refine bodyPost_ret (v := .tuple #[.agg #[.slice (some ⟨b, 0, none⟩) k n, .int .i64 ((k : Int) + 2), .int .u8 (f (k + 2)), .int .u8 (vr (f (k + 1))), .int .u8 0, .int .u8 0, .int .u8 0, .int .u8 (vl (f (k + 1))), .int .u8 1, .int .u8 (vp (f (k + 1))), .int .u8 (vv (f (k + 1)))], .bool true]) (by simp [results, Try.results14, go_sem]) rfl ⟨rfl, ?_⟩
      exact ((Below.refl _ _).alloc (Nat.le_refl _) _).alloc (by simp) _

set_option maxHeartbeats 1000000 in
set_option maxRecDepth 20000 in
theorem read_2b (b n m : Nat) (f : Nat → Int) (w : World) (hn : n ≤ 1048577) (hb : b < w.heap.size) (hr : ∀ k, 0 ≤ f k ∧ f k < 256)
    (hcell : ∀ j, j < n → w.cell? ⟨b, j, none⟩ = some (.int .u8 (f j)))
    (hpre : ∀ j, j < m → preB (f j) = true) (hm : m + 2 = n) (h5 : f m = 197) :
    Calls Try.prog 14 #[.slice (some ⟨b, 0, none⟩) n n] w fun e w' => e = .returned (.tuple #[.agg #[.slice (some ⟨b, 0, none⟩) m n, .int .i64 ((m : Int) + 2), .int .u8 0, .int .u8 (vr (f (m + 1))), .int .u8 0, .int .u8 0, .int .u8 0, .int .u8 (vl (f (m + 1))), .int .u8 1, .int .u8 (vp (f (m + 1))), .int .u8 (vv (f (m + 1)))], .bool false]) ∧ Below w.heap.size w w' := by
  have HCell : Hid (∀ j, j < n → w.cell? ⟨b, j, none⟩ = some (.int .u8 (f j))) := hcell
  have HP : Hid (∀ j, j < m → preB (f j) = true) := hpre
  clear hcell hpre
  have hcm : w.cell? ⟨b, m, none⟩ = some (.int .u8 197) := by rw [← h5]; exact HCell.out m (by omega)
  have hc1 : w.cell? ⟨b, m + 1, none⟩ = some (.int .u8 (f (m + 1))) := HCell.out (m + 1) (by omega)
  have hs : preB 197 = false := by decide
  have hz : ((m : Int) + 2 == 0) = false := beq_no (by omega)
  have xr := r_of (f (m + 1)) (hr _).1 (hr _).2
  have xl := l_of (f (m + 1)) (hr _).1 (hr _).2
  have xp := p_of (f (m + 1)) (hr _).1 (hr _).2
  have xv := v_of (f (m + 1)) (hr _).1 (hr _).2
  clear h5 hr
  have hm1 : m + 2 ≤ n := by omega
  have hm2 : n ≤ m + 2 := by omega
  clear hm
  go_enter Try.func14, Try.ntmps14
  go_wp2
  go_loop [5] (fun i => ∃ k : Nat, k ≤ m ∧ i = .int .i64 k) (fun i => m - (intOf i).toNat)
  case atStart => exact ⟨0, by omega, rfl⟩
  case round =>
    obtain ⟨k, hk, rfl⟩ := hrel
    by_cases hlt : k < m
    · have hck : w.cell? ⟨b, k, none⟩ = some (.int .u8 (f k)) := HCell.out k (by omega)
      have hpk := HP.out k hlt
      go_wp2_with (go_at_call 15; refine (before_any _ _).mono ?_; rintro e w' ⟨rfl, rfl⟩)
      go_round
      case rel => exact ⟨k + 1, by omega, by go_num⟩
      case measure => simp [intOf]; omega
    · obtain rfl : k = m := by omega
      clear hk hlt HP
      go_wp2_with (go_at_call 15; refine (before_any _ _).mono ?_; rintro e w' ⟨rfl, rfl⟩)
      refine bodyPost_ret (v := .tuple #[.agg #[.slice (some ⟨b, 0, none⟩) k n, .int .i64 ((k : Int) + 2), .int .u8 0, .int .u8 (vr (f (k + 1))), .int .u8 0, .int .u8 0, .int .u8 0, .int .u8 (vl (f (k + 1))), .int .u8 1, .int .u8 (vp (f (k + 1))), .int .u8 (vv (f (k + 1)))], .bool false]) (by simp [results, Try.results14, go_sem]) rfl ⟨rfl, ?_⟩
      exact ((Below.refl _ _).alloc (Nat.le_refl _) _).alloc (by simp) _

set_option maxHeartbeats 1000000 in
set_option maxRecDepth 20000 in
theorem read_3a (b n m : Nat) (f : Nat → Int) (w : World) (hn : n ≤ 1048577) (hb : b < w.heap.size) (hr : ∀ k, 0 ≤ f k ∧ f k < 256)
    (hcell : ∀ j, j < n → w.cell? ⟨b, j, none⟩ = some (.int .u8 (f j)))
    (hpre : ∀ j, j < m → preB (f j) = true) (hm : m + 3 < n) (h4 : f m = 196) :
    Calls Try.prog 14 #[.slice (some ⟨b, 0, none⟩) n n] w fun e w' => e = .returned (.tuple #[.agg #[.slice (some ⟨b, 0, none⟩) m n, .int .i64 ((m : Int) + 3), .int .u8 (f (m + 3)), .int .u8 (vr (f (m + 1))), .int .u8 (vx (f (m + 1))), .int .u8 (vb (f (m + 1))), .int .u8 (vw (f (m + 2))), .int .u8 (vl (f (m + 2))), .int .u8 (vo (f (m + 1))), .int .u8 (vp (f (m + 2))), .int .u8 (vv (f (m + 2)))], .bool true]) ∧ Below w.heap.size w w' := by
  have HCell : Hid (∀ j, j < n → w.cell? ⟨b, j, none⟩ = some (.int .u8 (f j))) := hcell
  have HP : Hid (∀ j, j < m → preB (f j) = true) := hpre
  clear hcell hpre
  have hcm : w.cell? ⟨b, m, none⟩ = some (.int .u8 196) := by rw [← h4]; exact HCell.out m (by omega)
  have hc1 : w.cell? ⟨b, m + 1, none⟩ = some (.int .u8 (f (m + 1))) := HCell.out (m + 1) (by omega)
  have hc2 : w.cell? ⟨b, m + 2, none⟩ = some (.int .u8 (f (m + 2))) := HCell.out (m + 2) (by omega)
  have hs : preB 196 = false := by decide
  have hz : ((m : Int) + 3 == 0) = false := beq_no (by omega)
  have xr := r_of (f (m + 1)) (hr _).1 (hr _).2
  have xx := x_of (f (m + 1)) (hr _).1 (hr _).2
  have xb := b_of (f (m + 1)) (hr _).1 (hr _).2
  have xo := o_of (f (m + 1)) (hr _).1 (hr _).2
  have xl := l_of (f (m + 2)) (hr _).1 (hr _).2
  have xp := p_of (f (m + 2)) (hr _).1 (hr _).2
  have xv := v_of (f (m + 2)) (hr _).1 (hr _).2
  have xw : f (m + 2) / 128 = vw (f (m + 2)) := rfl
  have hc3 : w.cell? ⟨b, m + 3, none⟩ = some (.int .u8 (f (m + 3))) := HCell.out (m + 3) (by omega)
  clear h4 hr
  go_enter Try.func14, Try.ntmps14
  go_wp2
  go_loop [5] (fun i => ∃ k : Nat, k ≤ m ∧ i = .int .i64 k) (fun i => m - (intOf i).toNat)
  case atStart => exact ⟨0, by omega, rfl⟩
  case round =>
    obtain ⟨k, hk, rfl⟩ := hrel
    by_cases hlt : k < m
    · have hck : w.cell? ⟨b, k, none⟩ = some (.int .u8 (f k)) := HCell.out k (by omega)
      have hpk := HP.out k hlt
      go_wp2_with (go_at_call 15; refine (before_any _ _).mono ?_; rintro e w' ⟨rfl, rfl⟩)
      go_round
      case rel => exact ⟨k + 1, by omega, by go_num⟩
      case measure => simp [intOf]; omega
    · obtain rfl : k = m := by omega
      clear hk hlt HP
      go_wp2_with (go_at_call 15; refine (before_any _ _).mono ?_; rintro e w' ⟨rfl, rfl⟩)
      go_region
      go_wp2
      refine bodyPost_ret (v := .tuple #[.agg #[.slice (some ⟨b, 0, none⟩) k n, .int .i64 ((k : Int) + 3), .int .u8 (f (k + 3)), .int .u8 (vr (f (k + 1))), .int .u8 (vx (f (k + 1))), .int .u8 (vb (f (k + 1))), .int .u8 (vw (f (k + 2))), .int .u8 (vl (f (k + 2))), .int .u8 (vo (f (k + 1))), .int .u8 (vp (f (k + 2))), .int .u8 (vv (f (k + 2)))], .bool true]) (by simp [results, Try.results14, go_sem]) rfl ⟨rfl, ?_⟩
      exact (((Below.refl _ _).alloc (Nat.le_refl _) _).alloc (by simp) _).drew

set_option maxHeartbeats 1000000 in
set_option maxRecDepth 20000 in
theorem read_3b (b n m : Nat) (f : Nat → Int) (w : World) (hn : n ≤ 1048577) (hb : b < w.heap.size) (hr : ∀ k, 0 ≤ f k ∧ f k < 256)
    (hcell : ∀ j, j < n → w.cell? ⟨b, j, none⟩ = some (.int .u8 (f j)))
    (hpre : ∀ j, j < m → preB (f j) = true) (hm : m + 3 = n) (h4 : f m = 196) :
    Calls Try.prog 14 #[.slice (some ⟨b, 0, none⟩) n n] w fun e w' => e = .returned (.tuple #[.agg #[.slice (some ⟨b, 0, none⟩) m n, .int .i64 ((m : Int) + 3), .int .u8 0, .int .u8 (vr (f (m + 1))), .int .u8 (vx (f (m + 1))), .int .u8 (vb (f (m + 1))), .int .u8 (vw (f (m + 2))), .int .u8 (vl (f (m + 2))), .int .u8 (vo (f (m + 1))), .int .u8 (vp (f (m + 2))), .int .u8 (vv (f (m + 2)))], .bool false]) ∧ Below w.heap.size w w' := by
  have HCell : Hid (∀ j, j < n → w.cell? ⟨b, j, none⟩ = some (.int .u8 (f j))) := hcell
  have HP : Hid (∀ j, j < m → preB (f j) = true) := hpre
  clear hcell hpre
  have hcm : w.cell? ⟨b, m, none⟩ = some (.int .u8 196) := by rw [← h4]; exact HCell.out m (by omega)
  have hc1 : w.cell? ⟨b, m + 1, none⟩ = some (.int .u8 (f (m + 1))) := HCell.out (m + 1) (by omega)
  have hc2 : w.cell? ⟨b, m + 2, none⟩ = some (.int .u8 (f (m + 2))) := HCell.out (m + 2) (by omega)
  have hs : preB 196 = false := by decide
  have hz : ((m : Int) + 3 == 0) = false := beq_no (by omega)
  have xr := r_of (f (m + 1)) (hr _).1 (hr _).2
  have xx := x_of (f (m + 1)) (hr _).1 (hr _).2
  have xb := b_of (f (m + 1)) (hr _).1 (hr _).2
  have xo := o_of (f (m + 1)) (hr _).1 (hr _).2
  have xl := l_of (f (m + 2)) (hr _).1 (hr _).2
  have xp := p_of (f (m + 2)) (hr _).1 (hr _).2
  have xv := v_of (f (m + 2)) (hr _).1 (hr _).2
  have xw : f (m + 2) / 128 = vw (f (m + 2)) := rfl
  clear h4 hr
  have hm1 : m + 3 ≤ n := by omega
  have hm2 : n ≤ m + 3 := by omega
  clear hm
  go_enter Try.func14, Try.ntmps14
  go_wp2
  go_loop [5] (fun i => ∃ k : Nat, k ≤ m ∧ i = .int .i64 k) (fun i => m - (intOf i).toNat)
  case atStart => exact ⟨0, by omega, rfl⟩
  case round =>
    obtain ⟨k, hk, rfl⟩ := hrel
    by_cases hlt : k < m
    · have hck : w.cell? ⟨b, k, none⟩ = some (.int .u8 (f k)) := HCell.out k (by omega)
      have hpk := HP.out k hlt
      go_wp2_with (go_at_call 15; refine (before_any _ _).mono ?_; rintro e w' ⟨rfl, rfl⟩)
      go_round
      case rel => exact ⟨k + 1, by omega, by go_num⟩
      case measure => simp [intOf]; omega
    · obtain rfl : k = m := by omega
      clear hk hlt HP
      go_wp2_with (go_at_call 15; refine (before_any _ _).mono ?_; rintro e w' ⟨rfl, rfl⟩)
      go_region
      go_wp2
      refine bodyPost_ret (v := .tuple #[.agg #[.slice (some ⟨b, 0, none⟩) k n, .int .i64 ((k : Int) + 3), .int .u8 0, .int .u8 (vr (f (k + 1))), .int .u8 (vx (f (k + 1))), .int .u8 (vb (f (k + 1))), .int .u8 (vw (f (k + 2))), .int .u8 (vl (f (k + 2))), .int .u8 (vo (f (k + 1))), .int .u8 (vp (f (k + 2))), .int .u8 (vv (f (k + 2)))], .bool false]) (by simp [results, Try.results14, go_sem]) rfl ⟨rfl, ?_⟩
      exact (((Below.refl _ _).alloc (Nat.le_refl _) _).alloc (by simp) _).drew

set_option maxHeartbeats 1000000 in
set_option maxRecDepth 20000 in
theorem read_0n (b n m : Nat) (f : Nat → Int) (w : World) (hn : n ≤ 1048577) (hb : b < w.heap.size) (hr : ∀ k, 0 ≤ f k ∧ f k < 256)
    (hcell : ∀ j, j < n → w.cell? ⟨b, j, none⟩ = some (.int .u8 (f j)))
    (hpre : ∀ j, j < m → preB (f j) = true) (hm : m = n) :
    Calls Try.prog 14 #[.slice (some ⟨b, 0, none⟩) n n] w fun e w' => e = .returned (.tuple #[.agg #[.slice (some ⟨b, 0, none⟩) m n, .int .i64 0, .int .u8 0, .int .u8 0, .int .u8 0, .int .u8 0, .int .u8 0, .int .u8 0, .int .u8 0, .int .u8 0, .int .u8 0], .bool false]) ∧ Below w.heap.size w w' := by
  have HCell : Hid (∀ j, j < n → w.cell? ⟨b, j, none⟩ = some (.int .u8 (f j))) := hcell
  have HP : Hid (∀ j, j < m → preB (f j) = true) := hpre
  clear hcell hpre
  have hm1 : m ≤ n := by omega
  have hm2 : n ≤ m := by omega
  clear hm
  go_enter Try.func14, Try.ntmps14
  go_wp2
  go_loop [5] (fun i => ∃ k : Nat, k ≤ m ∧ i = .int .i64 k) (fun i => m - (intOf i).toNat)
  case atStart => exact ⟨0, by omega, rfl⟩
  case round =>
    obtain ⟨k, hk, rfl⟩ := hrel
    by_cases hlt : k < m
    · have hck : w.cell? ⟨b, k, none⟩ = some (.int .u8 (f k)) := HCell.out k (by omega)
      have hpk := HP.out k hlt
      go_wp2_with (go_at_call 15; refine (before_any _ _).mono ?_; rintro e w' ⟨rfl, rfl⟩)
      go_round
      case rel => exact ⟨k + 1, by omega, by go_num⟩
      case measure => simp [intOf]; omega
    · obtain rfl : k = m := by omega
      clear hk hlt HP
      go_wp2_with (go_at_call 15; refine (before_any _ _).mono ?_; rintro e w' ⟨rfl, rfl⟩)
      refine bodyPost_ret (v := .tuple #[.agg #[.slice (some ⟨b, 0, none⟩) k n, .int .i64 0, .int .u8 0, .int .u8 0, .int .u8 0, .int .u8 0, .int .u8 0, .int .u8 0, .int .u8 0, .int .u8 0, .int .u8 0], .bool false]) (by simp [results, Try.results14, go_sem]) rfl ⟨rfl, ?_⟩
      exact ((Below.refl _ _).alloc (Nat.le_refl _) _).alloc (by simp) _

set_option maxHeartbeats 1000000 in
set_option maxRecDepth 20000 in
theorem read_0i (b n m : Nat) (f : Nat → Int) (w : World) (hn : n ≤ 1048577) (hb : b < w.heap.size) (hr : ∀ k, 0 ≤ f k ∧ f k < 256)
    (hcell : ∀ j, j < n → w.cell? ⟨b, j, none⟩ = some (.int .u8 (f j)))
    (hpre : ∀ j, j < m → preB (f j) = true) (hm : m + 1 = n) (hs : preB (f m) = false) :
    Calls Try.prog 14 #[.slice (some ⟨b, 0, none⟩) n n] w fun e w' => e = .returned (.tuple #[.agg #[.slice (some ⟨b, 0, none⟩) m n, .int .i64 0, .int .u8 0, .int .u8 0, .int .u8 0, .int .u8 0, .int .u8 0, .int .u8 0, .int .u8 0, .int .u8 0, .int .u8 0], .bool false]) ∧ Below w.heap.size w w' := by
  have HCell : Hid (∀ j, j < n → w.cell? ⟨b, j, none⟩ = some (.int .u8 (f j))) := hcell
  have HP : Hid (∀ j, j < m → preB (f j) = true) := hpre
  clear hcell hpre
  have hcm : w.cell? ⟨b, m, none⟩ = some (.int .u8 (f m)) := HCell.out m (by omega)
  have hm1 : m + 1 ≤ n := by omega
  have hm2 : n ≤ m + 1 := by omega
  clear hm
  go_enter Try.func14, Try.ntmps14
  go_wp2
  go_loop [5] (fun i => ∃ k : Nat, k ≤ m ∧ i = .int .i64 k) (fun i => m - (intOf i).toNat)
  case atStart => exact ⟨0, by omega, rfl⟩
  case round =>
    obtain ⟨k, hk, rfl⟩ := hrel
    by_cases hlt : k < m
    · have hck : w.cell? ⟨b, k, none⟩ = some (.int .u8 (f k)) := HCell.out k (by omega)
      have hpk := HP.out k hlt
      go_wp2_with (go_at_call 15; refine (before_any _ _).mono ?_; rintro e w' ⟨rfl, rfl⟩)
      go_round
      case rel => exact ⟨k + 1, by omega, by go_num⟩
      case measure => simp [intOf]; omega
    · obtain rfl : k = m := by omega
      clear hk hlt HP
      go_wp2_with (go_at_call 15; refine (before_any _ _).mono ?_; rintro e w' ⟨rfl, rfl⟩)
      refine bodyPost_ret (v := .tuple #[.agg #[.slice (some ⟨b, 0, none⟩) k n, .int .i64 0, .int .u8 0, .int .u8 0, .int .u8 0, .int .u8 0, .int .u8 0, .int .u8 0, .int .u8 0, .int .u8 0, .int .u8 0], .bool false]) (by simp [results, Try.results14, go_sem]) rfl ⟨rfl, ?_⟩
      exact ((Below.refl _ _).alloc (Nat.le_refl _) _).alloc (by simp) _

set_option maxHeartbeats 1000000 in
set_option maxRecDepth 20000 in
theorem read_0ii (b n m : Nat) (f : Nat → Int) (w : World) (hn : n ≤ 1048577) (hb : b < w.heap.size) (hr : ∀ k, 0 ≤ f k ∧ f k < 256)
    (hcell : ∀ j, j < n → w.cell? ⟨b, j, none⟩ = some (.int .u8 (f j)))
    (hpre : ∀ j, j < m → preB (f j) = true) (hm : m + 2 = n) (hs : preB (f m) = false) (h5 : ¬ f m = 197) :
    Calls Try.prog 14 #[.slice (some ⟨b, 0, none⟩) n n] w fun e w' => e = .returned (.tuple #[.agg #[.slice (some ⟨b, 0, none⟩) m n, .int .i64 0, .int .u8 0, .int .u8 0, .int .u8 0, .int .u8 0, .int .u8 0, .int .u8 0, .int .u8 0, .int .u8 0, .int .u8 0], .bool false]) ∧ Below w.heap.size w w' := by
  have HCell : Hid (∀ j, j < n → w.cell? ⟨b, j, none⟩ = some (.int .u8 (f j))) := hcell
  have HP : Hid (∀ j, j < m → preB (f j) = true) := hpre
  clear hcell hpre
  have hcm : w.cell? ⟨b, m, none⟩ = some (.int .u8 (f m)) := HCell.out m (by omega)
  have hm1 : m + 2 ≤ n := by omega
  have hm2 : n ≤ m + 2 := by omega
  have h5' := beq_no h5
  clear hm h5
  go_enter Try.func14, Try.ntmps14
  go_wp2
  go_loop [5] (fun i => ∃ k : Nat, k ≤ m ∧ i = .int .i64 k) (fun i => m - (intOf i).toNat)
  case atStart => exact ⟨0, by omega, rfl⟩
  case round =>
    obtain ⟨k, hk, rfl⟩ := hrel
    by_cases hlt : k < m
    · have hck : w.cell? ⟨b, k, none⟩ = some (.int .u8 (f k)) := HCell.out k (by omega)
      have hpk := HP.out k hlt
      go_wp2_with (go_at_call 15; refine (before_any _ _).mono ?_; rintro e w' ⟨rfl, rfl⟩)
      go_round
      case rel => exact ⟨k + 1, by omega, by go_num⟩
      case measure => simp [intOf]; omega
    · obtain rfl : k = m := by omega
      clear hk hlt HP
      go_wp2_with (go_at_call 15; refine (before_any _ _).mono ?_; rintro e w' ⟨rfl, rfl⟩)
      refine bodyPost_ret (v := .tuple #[.agg #[.slice (some ⟨b, 0, none⟩) k n, .int .i64 0, .int .u8 0, .int .u8 0, .int .u8 0, .int .u8 0, .int .u8 0, .int .u8 0, .int .u8 0, .int .u8 0, .int .u8 0], .bool false]) (by simp [results, Try.results14, go_sem]) rfl ⟨rfl, ?_⟩
      exact ((Below.refl _ _).alloc (Nat.le_refl _) _).alloc (by simp) _

set_option maxHeartbeats 1000000 in
set_option maxRecDepth 20000 in
theorem read_0iii (b n m : Nat) (f : Nat → Int) (w : World) (hn : n ≤ 1048577) (hb : b < w.heap.size) (hr : ∀ k, 0 ≤ f k ∧ f k < 256)
    (hcell : ∀ j, j < n → w.cell? ⟨b, j, none⟩ = some (.int .u8 (f j)))
    (hpre : ∀ j, j < m → preB (f j) = true) (hm : m + 2 < n) (hs : preB (f m) = false) (h5 : ¬ f m = 197) (h4 : ¬ f m = 196) :
    Calls Try.prog 14 #[.slice (some ⟨b, 0, none⟩) n n] w fun e w' => e = .returned (.tuple #[.agg #[.slice (some ⟨b, 0, none⟩) m n, .int .i64 0, .int .u8 0, .int .u8 0, .int .u8 0, .int .u8 0, .int .u8 0, .int .u8 0, .int .u8 0, .int .u8 0, .int .u8 0], .bool false]) ∧ Below w.heap.size w w' := by
  have HCell : Hid (∀ j, j < n → w.cell? ⟨b, j, none⟩ = some (.int .u8 (f j))) := hcell
  have HP : Hid (∀ j, j < m → preB (f j) = true) := hpre
  clear hcell hpre
  have hcm : w.cell? ⟨b, m, none⟩ = some (.int .u8 (f m)) := HCell.out m (by omega)
  have h5' := beq_no h5
  have h4' := beq_no h4
  clear h5 h4
  go_enter Try.func14, Try.ntmps14
  go_wp2
  go_loop [5] (fun i => ∃ k : Nat, k ≤ m ∧ i = .int .i64 k) (fun i => m - (intOf i).toNat)
  case atStart => exact ⟨0, by omega, rfl⟩
  case round =>
    obtain ⟨k, hk, rfl⟩ := hrel
    by_cases hlt : k < m
    · have hck : w.cell? ⟨b, k, none⟩ = some (.int .u8 (f k)) := HCell.out k (by omega)
      have hpk := HP.out k hlt
      go_wp2_with (go_at_call 15; refine (before_any _ _).mono ?_; rintro e w' ⟨rfl, rfl⟩)
      go_round
      case rel => exact ⟨k + 1, by omega, by go_num⟩
      case measure => simp [intOf]; omega
    · obtain rfl : k = m := by omega
      clear hk hlt HP
      go_wp2_with (go_at_call 15; refine (before_any _ _).mono ?_; rintro e w' ⟨rfl, rfl⟩)
      refine bodyPost_ret (v := .tuple #[.agg #[.slice (some ⟨b, 0, none⟩) k n, .int .i64 0, .int .u8 0, .int .u8 0, .int .u8 0, .int .u8 0, .int .u8 0, .int .u8 0, .int .u8 0, .int .u8 0, .int .u8 0], .bool false]) (by simp [results, Try.results14, go_sem]) rfl ⟨rfl, ?_⟩
      exact ((Below.refl _ _).alloc (Nat.le_refl _) _).alloc (by simp) _


/-- nothing is read -/
theorem read_0 (b n m : Nat) (f : Nat → Int) (w : World) (hn : n ≤ 1048577) (hb : b < w.heap.size) (hr : ∀ k, 0 ≤ f k ∧ f k < 256)
    (hcell : ∀ j, j < n → w.cell? ⟨b, j, none⟩ = some (.int .u8 (f j)))
    (hpre : ∀ j, j < m → preB (f j) = true) (hm : m ≤ n) (hs : m < n → preB (f m) = false) (h5 : ¬ (m + 2 ≤ n ∧ f m = 197)) (h4 : ¬ (m + 3 ≤ n ∧ f m = 196)) :
    Calls Try.prog 14 #[.slice (some ⟨b, 0, none⟩) n n] w fun e w' => e = .returned (.tuple #[.agg #[.slice (some ⟨b, 0, none⟩) m n, .int .i64 0, .int .u8 0, .int .u8 0, .int .u8 0, .int .u8 0, .int .u8 0, .int .u8 0, .int .u8 0, .int .u8 0, .int .u8 0], .bool false]) ∧ Below w.heap.size w w' := by
  by_cases h1 : m = n
  · exact read_0n b n m f w hn hb hr hcell hpre h1
  · by_cases h2 : m + 1 = n
    · exact read_0i b n m f w hn hb hr hcell hpre h2 (hs (by omega))
    · by_cases h3 : m + 2 = n
      · exact read_0ii b n m f w hn hb hr hcell hpre h3 (hs (by omega)) (fun e => h5 ⟨by omega, e⟩)
      · exact read_0iii b n m f w hn hb hr hcell hpre (by omega) (hs (by omega)) (fun e => h5 ⟨by omega, e⟩) (fun e => h4 ⟨by omega, e⟩)

theorem read_empty (a : Option Addr) (cap : Nat) (w : World) :
    Calls Try.prog 14 #[.slice a 0 cap] w fun e w' => e = .returned (.tuple #[.agg #[.slice a 0 cap, .int .i64 0, .int .u8 0, .int .u8 0, .int .u8 0, .int .u8 0, .int .u8 0, .int .u8 0, .int .u8 0, .int .u8 0, .int .u8 0], .bool false]) ∧ Below w.heap.size w w' := by
  go_enter Try.func14, Try.ntmps14
  go_wp2
  refine wp_loop_rounds 1 ?_
  rw [rounds_succ]
  go_wp2
  refine bodyPost_ret (v := .tuple #[.agg #[.slice a 0 cap, .int .i64 0, .int .u8 0, .int .u8 0, .int .u8 0, .int .u8 0, .int .u8 0, .int .u8 0, .int .u8 0, .int .u8 0, .int .u8 0], .bool false]) (by simp [results, Try.results14, go_sem]) rfl ⟨rfl, ?_⟩
  exact ((Below.refl _ _).alloc (Nat.le_refl _) _).alloc (by simp) _
end Go.Proofs.Qxb6617393a.Vex
