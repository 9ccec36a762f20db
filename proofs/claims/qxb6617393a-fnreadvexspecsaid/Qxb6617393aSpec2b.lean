import Derived.Test.Qxb6617393aSpecBase
namespace Go.Proofs.Qxb6617393a.Vex
open Go.ChangeShapes Go.WideShapes Go.ChangeAt Go.RowKit
set_option linter.unusedVariables false

set_option maxHeartbeats 2000000 in
set_option maxRecDepth 20000 in
theorem spec_2b (b off n cap m : Nat) (f : Nat → Int) (w : World) (hn : n ≤ 1048576) (h0 : 0 < n) (hr : ∀ k, 0 ≤ f k ∧ f k < 256)
    (hcell : ∀ j, j < n → w.cell? ⟨b, off + j, none⟩ = some (.int .u8 (f j))) (p : Pre f n m) (hm : m + 2 = n) (h5 : f m = 197) :
    Calls Try.prog 3 #[.slice (some ⟨b, off, none⟩) n cap] w fun e w' => e = .returned (.bool true) ∧ Below w.heap.size w w' := by
  have c7 := clone_row b off n cap f w hn hcell
  have c8 : ∀ w1 : World, w1.rowIs w.heap.size 5 n (fun j => .int .u8 (f j)) → _ := fun w1 h1 => zz_2b w.heap.size n m f w1 ⟨by omega, h1.lt, hr, fun j hj => h1.cell hj⟩ p hm h5
  have hb := cell_lt (hcell 0 h0)
  have HCell : Hid (∀ j, j < n → w.cell? ⟨b, off + j, none⟩ = some (.int .u8 (f j))) := hcell
  have HP : Hid (Pre f n m) := p
  have hpl := p.le
  have H5 : Hid (f m = 197) := h5
  clear h5
  have hm1 : m + 2 ≤ n := by omega
  have hm2 : n ≤ m + 2 := by omega
  clear hm
  clear hcell p
  go_enter Try.func3, Try.ntmps3
  go_wp2_with (first
    | (go_at_call 6; go_must (refine (bytes6 _ _ _ _ (by omega)).mono ?_); rintro e w' ⟨rfl, rfl⟩)
    | (go_at_call 7; go_must (refine c7.mono ?_); rintro e w1 ⟨rfl, hb1, hrow⟩; have H1 : Hid (w1.rowIs _ 5 n (fun j => .int .u8 (f j))) := hrow; clear hrow)
    | (go_at_call 8; go_must (refine (c8 _ H1.out).mono ?_); rintro e w2 ⟨rfl, hb2⟩))
  have HT : Hid (Two b off w.heap.size n f w2) := two_of hb HCell.out hb1 H1.out hb2
  have HB : Hid (Below w.heap.size w w2) := hb1.trans (hb2.mono hb1.size)
  have hl1 := HT.out.lt
  have hl2 := HT.out.lt'
  clear hb1 hb2 H1 HCell hb c7 c8
  go_loopw [7] (fun i wr => ∃ k d : Nat, k ≤ m ∧ i = .int .i64 k ∧ wr = (w2.alloc (.cells #[.slice (some ⟨w.heap.size, 0, none⟩) m n, .int .i64 ((m : Int) + 2), .int .u8 0, .int .u8 (vr (f (m + 1))), .int .u8 0, .int .u8 0, .int .u8 0, .int .u8 (vl (f (m + 1))), .int .u8 1, .int .u8 (vp (f (m + 1))), .int .u8 (vv (f (m + 1)))] 26)).drewN d) (fun i _ => m - (intOf i).toNat)
  case atStart => exact ⟨0, 0, by omega, rfl, rfl⟩
  case round =>
    obtain ⟨k, d, hk, rfl, rfl⟩ := hrel
    by_cases hlt : k < m
    · have hc1 := HT.out.code k (by omega)
      have hc2 := HT.out.copy k (by omega)
      have hpk := HP.out.all k hlt
      have hne : (f k != f k) = false := by simp
      have hkn : k < n := by omega
      go_wp2
      go_quiet ((go_at_call 9; exact (seg_any _ _).mono fun e w3 h => ⟨h.1, _, h.2⟩))
      go_wp2
      go_roundw
      case rel => exact ⟨k + 1, d + nq, by omega, by go_num, rfl⟩
      case measure => simp [intOf]; omega
    · obtain rfl : k = m := by omega
      clear hk hlt
      have hcm : w2.cell? ⟨b, off + k, none⟩ = some (.int .u8 197) := by rw [← H5.out]; exact HT.out.code k (by omega)
      have hc1 := HT.out.code (k + 1) (by omega)
      have hs : preB 197 = false := by decide
      obtain ⟨r1, r2⟩ := vr_bd _ (hr (k + 1)).1 (hr (k + 1)).2
      obtain ⟨l1, l2⟩ := vl_bd _ (hr (k + 1)).1 (hr (k + 1)).2
      obtain ⟨p1, p2⟩ := vp_bd _ (hr (k + 1)).1 (hr (k + 1)).2
      obtain ⟨v1, v2⟩ := vv_bd _ (hr (k + 1)).1 (hr (k + 1)).2
      have xlow := low_of _ (hr (k + 1)).1 (hr (k + 1)).2
      have xfin := fin2_of _ (hr (k + 1)).1 (hr (k + 1)).2
      have heq : (f (k + 1) == f (k + 1)) = true := by simp
      have hd1 : (k : Int) + 1 < (n : Int) := by omega
      clear H5
      have hd : decide ((k : Int) + 2 < (n : Int)) = false := decide_eq_false (by omega)
      clear HP hr
      go_wp2_with (first | (go_at_call 9; go_must (refine (seg_any _ _).mono ?_); rintro e w3 ⟨rfl, rfl⟩))
      go_quiet (fail)
      go_wp2
      go_quiet (fail)
      go_wp2
      go_ret
      exact ⟨rfl, below_draws (below_draws (HB.out.alloc (Nat.le_of_lt hl2) _) _) _⟩

end Go.Proofs.Qxb6617393a.Vex
