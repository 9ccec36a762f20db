import Derived.Test.Qxb6617264aRows
import Derived.WalkKit
import Derived.ProofKit
namespace Go.Proofs.Qxb6617264a.Fold
open Go.ChangeShapes Go.WideShapes Go.ChangeAt Go.RowKit

/-! ### THE PLAIN FUNCTIONS -/

/-- b may start a character -/
def rstart (b : Int) : Bool := b / 64 != 2

/-- the byte at k starts a character (or lies behind the end) -/
def rs (s : ByteArray) (k : Nat) : Bool := if h : k < s.size then rstart (s[k].toNat : Int) else true
/-- the greatest place at most n where a character starts, or 0 -/
def cutAt (s : ByteArray) : Nat → Nat
  | 0 => 0
  | n + 1 => if rs s (n + 1) then n + 1 else cutAt s n
def cut63 (s : ByteArray) : Nat := cutAt s 63
theorem cut63_eq (s : ByteArray) : cut63 s = cutAt s 63 := rfl
def foldS (s : ByteArray) : ByteArray := if s.size ≤ 63 then s else s.extract 0 (cut63 s)

theorem rs_at (s : ByteArray) (k : Nat) (h : k < s.size) : rs s k = rstart (s[k].toNat : Int) := by
  unfold rs; rw [dif_pos h]
theorem cutAt_le (s : ByteArray) (n : Nat) : cutAt s n ≤ n := by
  induction n with
  | zero => simp [cutAt]
  | succ n ih => simp only [cutAt]; split <;> omega
theorem cutAt_start (s : ByteArray) (n : Nat) : cutAt s n = 0 ∨ rs s (cutAt s n) = true := by
  induction n with
  | zero => simp [cutAt]
  | succ n ih =>
    simp only [cutAt]
    split
    · right; assumption
    · exact ih
theorem cutAt_gap (s : ByteArray) (n m : Nat) (h1 : cutAt s n < m) (h2 : m ≤ n) : rs s m = false := by
  induction n with
  | zero => omega
  | succ n ih =>
    simp only [cutAt] at h1
    by_cases hr : rs s (n + 1) = true
    · rw [if_pos hr] at h1; omega
    · rw [if_neg hr] at h1
      by_cases hm : m = n + 1
      · subst hm; simpa using hr
      · exact ih h1 (by omega)

theorem cut_no (s : ByteArray) (k : Nat) (h : 0 < k) (hz : rs s k = false) : cutAt s k = cutAt s (k - 1) := by
  obtain ⟨j, rfl⟩ : ∃ j, k = j + 1 := ⟨k - 1, by omega⟩
  simp [cutAt, hz]
theorem cut_yes (s : ByteArray) (k : Nat) (hz : rs s k = true) : cutAt s k = k := by
  cases k with
  | zero => rfl
  | succ j => simp [cutAt, hz]
theorem cut63_le (s : ByteArray) : cut63 s ≤ 63 := cutAt_le s 63
theorem foldS_short (s : ByteArray) (h : s.size ≤ 63) : foldS s = s := by unfold foldS; rw [if_pos h]
theorem foldS_long (s : ByteArray) (h : 64 ≤ s.size) : foldS s = s.extract 0 (cut63 s) := by unfold foldS; rw [if_neg (by omega)]
theorem foldS_size (s : ByteArray) (h : 64 ≤ s.size) : (foldS s).size = cut63 s := by
  have := cut63_le s
  rw [foldS_long s h, ByteArray.size_extract]; omega
theorem rs_extract (s : ByteArray) (k j : Nat) (hk : k ≤ s.size) (hj : j < k) : rs (s.extract 0 k) j = rs s j := by
  have h1 : j < (s.extract 0 k).size := by rw [ByteArray.size_extract]; omega
  rw [rs_at _ _ h1, rs_at s j (by omega)]
  simp [ByteArray.getElem_extract]
theorem cutAt_extract (s : ByteArray) (k n : Nat) (hk : k ≤ s.size) (hn : n < k) : cutAt (s.extract 0 k) n = cutAt s n := by
  induction n with
  | zero => rfl
  | succ n ih => simp only [cutAt]; rw [rs_extract s k (n + 1) hk hn, ih (by omega)]
theorem foldS_cut (s : ByteArray) (k : Nat) (h : 64 ≤ k) (hk : k ≤ s.size) : foldS (s.extract 0 k) = foldS s := by
  have h1 : (s.extract 0 k).size = k := by rw [ByteArray.size_extract]; omega
  have h2 := cut63_le s
  rw [foldS_long _ (by omega), foldS_long s (by omega)]
  have h3 : cut63 (s.extract 0 k) = cut63 s := cutAt_extract s k 63 hk (by omega)
  rw [h3, ByteArray.extract_extract]
  congr 1
  omega
theorem u8lt (b : UInt8) : (b.toNat : Int) < 256 := by have := UInt8.toNat_lt b; omega

/-! ### THE WALKS -/
theorem bits_start : ∀ n : Fin 256, (bits BinOp.and IntKind.u8 (n.val : Int) 192 != 128) = rstart (n.val : Int) := by decide +kernel
theorem start_of (b : Int) (h0 : 0 ≤ b) (h1 : b < 256) : (bits BinOp.and IntKind.u8 b 192 != 128) = rstart b := by
  have := bits_start ⟨b.toNat, by omega⟩
  simpa [Int.toNat_of_nonneg h0] using this
theorem runeStart_any (b : Int) (w : World) (h0 : 0 ≤ b) (h1 : b < 256) :
    Calls Try.prog 13 #[.int .u8 b] w fun e w' => e = .returned (.bool (rstart b)) ∧ w' = w := by
  rw [← start_of b h0 h1]
  go_enter Try.func13, Try.ntmps13
  go_wp2
  go_ret
  exact ⟨rfl, rfl⟩

theorem bits_cont : ∀ n : Fin 256, (bits BinOp.and IntKind.u8 (n.val : Int) 192 == 128) = !rstart (n.val : Int) := by decide +kernel
theorem cont_of (b : Int) (h0 : 0 ≤ b) (h1 : b < 256) : (bits BinOp.and IntKind.u8 b 192 == 128) = !rstart b := by
  have := bits_cont ⟨b.toNat, by omega⟩
  simpa [Int.toNat_of_nonneg h0] using this

theorem continues_any (b : Int) (w : World) (h0 : 0 ≤ b) (h1 : b < 256) :
    Calls Try.prog 8 #[.int .u8 b] w fun e w' => e = .returned (.bool (!rstart b)) ∧ w' = w := by
  rw [← cont_of b h0 h1]
  go_enter Try.func8, Try.ntmps8
  go_wp2
  go_ret
  exact ⟨rfl, rfl⟩

theorem fold_short (s : ByteArray) (w : World) (h : s.size ≤ 63) :
    Calls Try.prog 12 #[.string s] w fun e w' => e = .returned (.string s) ∧ w' = w := by
  go_enter Try.func12, Try.ntmps12
  go_wp2
  go_ret
  exact ⟨rfl, rfl⟩

theorem ret_bool {a b : Bool} (h : a = b) : Ending.returned (.bool a) = .returned (.bool b) := by rw [h]
theorem ret_str {a b : ByteArray} (h : a = b) : Ending.returned (.string a) = .returned (.string b) := by rw [h]

theorem fold_long (s : ByteArray) (w : World) (hs : s.size ≤ maxLen) (h : 64 ≤ s.size) :
    Calls Try.prog 12 #[.string s] w fun e w' => e = .returned (.string (s.extract 0 (cut63 s))) ∧ w' = w := by
  unfold maxLen at hs
  go_enter Try.func12, Try.ntmps12
  go_wp2
  go_loop [3] (fun n => ∃ k : Nat, k ≤ 63 ∧ n = .int .i64 k ∧ cut63 s = cutAt s k) (fun n => (intOf n).toNat)
  case atStart => exact ⟨63, by omega, rfl, cut63_eq s⟩
  case round =>
    obtain ⟨k, hk, rfl, hc⟩ := hrel
    have HC : Hid (cut63 s = cutAt s k) := hc
    clear hc
    by_cases h0 : 0 < k
    · have hlt : k < s.size := by omega
      have H1 : Hid (rs s k = rstart (s[k].toNat : Int)) := rs_at s k hlt
      go_wp2_with (go_at_call 13; refine (runeStart_any _ _ (by omega) (u8lt _)).mono ?_; rintro e w' ⟨rfl, rfl⟩)
      · have hr : (!rstart (s[k].toNat : Int)) = true := by assumption
        have hz : rs s k = false := by rw [H1.out]; simpa using hr
        go_round
        case rel =>
          refine ⟨k - 1, by omega, by go_num, ?_⟩
          rw [HC.out, cut_no s k h0 hz]
        case measure => simp [intOf]; omega
      · have hr : (!rstart (s[k].toNat : Int)) = false := by assumption
        have hz : rs s k = true := by rw [H1.out]; simpa using hr
        go_ret
        exact ⟨ret_str (by rw [HC.out, cut_yes s k hz]), rfl⟩
    · obtain rfl : k = 0 := by omega
      go_wp2
      go_ret
      exact ⟨ret_str (by rw [HC.out]; simp [cutAt]), rfl⟩

/-- THE CONTRACT: ZZpostgresFold hands back 'foldS s'; the world is as it was. -/
theorem fold_any (s : ByteArray) (w : World) (hs : s.size ≤ maxLen) :
    Calls Try.prog 7 #[.string s] w fun e w' => e = .returned (.string (foldS s)) ∧ w' = w := by
  by_cases h : s.size ≤ 63
  · have HF : Hid (foldS s = s) := by show foldS s = s; unfold foldS; rw [if_pos h]
    go_enter Try.func7, Try.ntmps7
    go_wp2_with (go_at_call 12; refine (fold_short _ _ h).mono ?_; rintro e w' ⟨rfl, rfl⟩)
    go_ret
    exact ⟨ret_str HF.out.symm, rfl⟩
  · have HF : Hid (foldS s = s.extract 0 (cut63 s)) := by show foldS s = _; unfold foldS; rw [if_neg h]
    go_enter Try.func7, Try.ntmps7
    go_wp2_with (go_at_call 12; refine (fold_long _ _ hs (by omega)).mono ?_; rintro e w' ⟨rfl, rfl⟩)
    go_ret
    exact ⟨ret_str HF.out.symm, rfl⟩
end Go.Proofs.Qxb6617264a.Fold
