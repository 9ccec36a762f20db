import Derived.Test.Qxb6617312aRows
import Derived.WalkKit
import Derived.ProofKit
import Derived.Below
namespace Go.Proofs.Qxb6617312a.Hex
open Go.ChangeShapes Go.WideShapes Go.ChangeAt Go.RowKit

/-! ### PLAIN -/
def allB (p : Nat → Bool) : Nat → Bool
  | 0 => true
  | n + 1 => allB p n && p n
theorem allB_iff (p : Nat → Bool) (n : Nat) : allB p n = true ↔ ∀ j, j < n → p j = true := by
  induction n with
  | zero => simp [allB]
  | succ n ih =>
    simp only [allB, Bool.and_eq_true, ih]
    constructor
    · rintro ⟨h, hn⟩ j hj
      by_cases e : j = n
      · subst e; exact hn
      · exact h j (by omega)
    · intro h
      exact ⟨fun j hj => h j (by omega), h n (by omega)⟩
theorem allB_no {p : Nat → Bool} {n k : Nat} (hk : k < n) (h : p k = false) : allB p n = false := by
  cases e : allB p n with
  | false => rfl
  | true => rw [(allB_iff p n).1 e k hk] at h; exact absurd h (by simp)
theorem allB_yes {p : Nat → Bool} {n k : Nat} (hk : ¬ k < n) (h : ∀ j, j < k → p j = true) : allB p n = true :=
  (allB_iff p n).2 fun j hj => h j (by omega)
theorem allB_split (p : Nat → Bool) (k m : Nat) : allB p (k + m) = (allB p k && allB (fun j => p (k + j)) m) := by
  induction m with
  | zero => simp [allB]
  | succ m ih => rw [← Nat.add_assoc]; simp only [allB]; rw [ih, Bool.and_assoc]

/-- a lowercase hexadecimal digit -/
def hexB (c : Int) : Bool := (decide (48 ≤ c) && decide (c ≤ 57)) || (decide (97 ≤ c) && decide (c ≤ 102))
theorem hexB_iff (c : Int) : hexB c = true ↔ (48 ≤ c ∧ c ≤ 57) ∨ (97 ≤ c ∧ c ≤ 102) := by simp [hexB]
theorem hexB_no {c : Int} (h : ¬ ((48 ≤ c ∧ c ≤ 57) ∨ (97 ≤ c ∧ c ≤ 102))) : hexB c = false := by
  cases e : hexB c with
  | false => rfl
  | true => exact absurd ((hexB_iff c).1 e) h
theorem hex_ways (c : Int) : (48 ≤ c ∧ c ≤ 57) ∨ (97 ≤ c ∧ c ≤ 102) ∨ c < 48 ∨ (57 < c ∧ c < 97 ∧ decide (c ≤ 57) = false) ∨ (102 < c ∧ decide (c ≤ 57) = false ∧ decide (c ≤ 102) = false) := by
  simp only [decide_eq_false_iff_not]; omega
def digit (v : Int) : Int := if v < 10 then 48 + v else 87 + v

theorem ret_bool {a b : Bool} (h : a = b) : Ending.returned (.bool a) = .returned (.bool b) := by rw [h]
theorem ret_int {k : IntKind} {a b : Int} (h : a = b) : Ending.returned (.int k a) = .returned (.int k b) := by rw [h]

/-! ### isHex: at a slice over a row of cells; at a nil one -/
set_option maxRecDepth 20000 in
theorem isHex_row (b off n cap : Nat) (f : Nat → Int) (w : World) (hn : n ≤ maxLen)
    (hcell : ∀ j, j < n → w.cell? ⟨b, off + j, none⟩ = some (.int .u8 (f j))) :
    Calls Try.prog 15 #[.slice (some ⟨b, off, none⟩) n cap] w fun e w' => e = .returned (.bool (allB (fun j => hexB (f j)) n)) ∧ w' = w := by
  unfold maxLen at hn
  go_enter Try.func15, Try.ntmps15
  go_wp2
  go_loop [7] (fun i => ∃ k : Nat, k ≤ n ∧ i = .int .i64 k ∧ ∀ j, j < k → hexB (f j) = true) (fun i => n - (intOf i).toNat)
  case atStart => exact ⟨0, by omega, rfl, fun j h => by omega⟩
  case round =>
    obtain ⟨k, hk, rfl, hh⟩ := hrel
    have HH : Hid (∀ j, j < k → hexB (f j) = true) := hh
    clear hh
    by_cases hlt : k < n
    · have hc := hcell k hlt
      rcases hex_ways (f k) with ⟨c1, c2⟩ | ⟨c1, c2⟩ | c1 | ⟨c1, c2, d1⟩ | ⟨c1, d1, d2⟩
      all_goals go_wp2
      all_goals first
        | (go_round
           case rel =>
             refine ⟨k + 1, by omega, by go_num, fun j h => ?_⟩
             by_cases e : j = k
             · subst e; exact (hexB_iff _).2 (by omega)
             · exact HH.out j (by omega)
           case measure => simp [intOf]; omega)
        | (go_ret
           exact ⟨ret_bool (allB_no hlt (hexB_no (by omega))).symm, rfl⟩)
    · go_wp2
      go_ret
      exact ⟨ret_bool (allB_yes hlt HH.out).symm, rfl⟩
theorem isHex_nil (cap : Nat) (w : World) :
    Calls Try.prog 15 #[.slice none 0 cap] w fun e w' => e = .returned (.bool true) ∧ w' = w := by
  go_enter Try.func15, Try.ntmps15
  go_wp2
  refine wp_loop_rounds 1 ?_
  rw [rounds_succ]
  go_wp2
  go_ret
  exact ⟨rfl, rfl⟩

theorem zzIsHex_row (b off n cap : Nat) (f : Nat → Int) (w : World) (hn : n ≤ maxLen)
    (hcell : ∀ j, j < n → w.cell? ⟨b, off + j, none⟩ = some (.int .u8 (f j))) :
    Calls Try.prog 9 #[.slice (some ⟨b, off, none⟩) n cap] w fun e w' => e = .returned (.bool (allB (fun j => hexB (f j)) n)) ∧ w' = w := by
  have c15 := fun w h => isHex_row b off n cap f w hn h
  generalize allB (fun j => hexB (f j)) n = r at *
  go_enter Try.func9, Try.ntmps9
  go_wp2_with (go_at_call 15; refine (c15 _ hcell).mono ?_; rintro e w' ⟨rfl, rfl⟩)
  go_ret
  exact ⟨rfl, rfl⟩
theorem zzIsHex_nil (cap : Nat) (w : World) :
    Calls Try.prog 9 #[.slice none 0 cap] w fun e w' => e = .returned (.bool true) ∧ w' = w := by
  go_enter Try.func9, Try.ntmps9
  go_wp2_with (go_at_call 15; refine (isHex_nil _ _).mono ?_; rintro e w' ⟨rfl, rfl⟩)
  go_ret
  exact ⟨rfl, rfl⟩

/-! ### zzIsDigitB1, zzAllDigitsB1 -/
theorem digit_any (v : Int) (w : World) (h0 : 0 ≤ v) (h1 : v < 16) :
    Calls Try.prog 20 #[.int .i64 v] w fun e w' => e = .returned (.int .u8 (digit v)) ∧ w' = w := by
  by_cases h : v < 10
  · have HD : Hid (digit v = 48 + v) := by show digit v = _; unfold digit; rw [if_pos h]
    go_enter Try.func20, Try.ntmps20
    go_wp2
    go_ret
    exact ⟨ret_int (by rw [HD.out]), rfl⟩
  · have HD : Hid (digit v = 87 + v) := by show digit v = _; unfold digit; rw [if_neg h]
    go_enter Try.func20, Try.ntmps20
    go_wp2
    go_ret
    exact ⟨ret_int (by rw [HD.out]; omega), rfl⟩

theorem hexB_digit {v : Int} (h0 : 0 ≤ v) (h1 : v < 16) : hexB (digit v) = true := by
  rw [hexB_iff]; unfold digit; split <;> omega
theorem hexB_none {c : Int} (h : ∀ v : Nat, v < 16 → digit v ≠ c) : hexB c = false := by
  refine hexB_no ?_
  rintro (⟨a, b⟩ | ⟨a, b⟩)
  · exact h (c - 48).toNat (by omega) (by unfold digit; rw [if_pos (by omega)]; omega)
  · exact h (c - 87).toNat (by omega) (by unfold digit; rw [if_neg (by omega)]; omega)

theorem isDigit_any (c : Int) (w : World) :
    Calls Try.prog 16 #[.int .u8 c] w fun e w' => e = .returned (.bool (hexB c)) ∧ w' = w := by
  go_enter Try.func16, Try.ntmps16
  go_wp2
  go_loop [3] (fun i => ∃ k : Nat, k ≤ 16 ∧ i = .int .i64 k ∧ ∀ v : Nat, v < k → digit v ≠ c) (fun i => 16 - (intOf i).toNat)
  case atStart => exact ⟨0, by omega, rfl, fun j h => by omega⟩
  case round =>
    obtain ⟨k, hk, rfl, hh⟩ := hrel
    have HH : Hid (∀ v : Nat, v < k → digit v ≠ c) := hh
    clear hh
    by_cases hlt : k < 16
    · go_wp2_with (go_at_call 20; refine (digit_any _ _ (by omega) (by omega)).mono ?_; rintro e w' ⟨rfl, rfl⟩)
      · have he : (digit (k : Int) == c) = true := by assumption
        go_ret
        exact ⟨ret_bool (by rw [← eq_of_beq he, hexB_digit (by omega) (by omega)]), rfl⟩
      · have he : (digit (k : Int) == c) = false := by assumption
        go_round
        case rel =>
          refine ⟨k + 1, by omega, by go_num, fun v h => ?_⟩
          by_cases e : v = k
          · subst e; simpa using he
          · exact HH.out v (by omega)
        case measure => simp [intOf]; omega
    · go_wp2
      go_ret
      exact ⟨ret_bool (hexB_none (fun v hv => HH.out v (by omega))).symm, rfl⟩

theorem allDigits_row (b off n cap : Nat) (f : Nat → Int) (w : World) (hn : n ≤ maxLen)
    (hcell : ∀ j, j < n → w.cell? ⟨b, off + j, none⟩ = some (.int .u8 (f j))) :
    Calls Try.prog 10 #[.slice (some ⟨b, off, none⟩) n cap] w fun e w' => e = .returned (.bool (allB (fun j => hexB (f j)) n)) ∧ w' = w := by
  unfold maxLen at hn
  go_enter Try.func10, Try.ntmps10
  go_wp2
  go_loop [3] (fun i => ∃ k : Nat, k ≤ n ∧ i = .int .i64 k ∧ ∀ j, j < k → hexB (f j) = true) (fun i => n - (intOf i).toNat)
  case atStart => exact ⟨0, by omega, rfl, fun j h => by omega⟩
  case round =>
    obtain ⟨k, hk, rfl, hh⟩ := hrel
    have HH : Hid (∀ j, j < k → hexB (f j) = true) := hh
    clear hh
    by_cases hlt : k < n
    · have hc := hcell k hlt
      go_wp2_with (go_at_call 16; refine (isDigit_any _ _).mono ?_; rintro e w' ⟨rfl, rfl⟩)
      · have he : (!hexB (f k)) = true := by assumption
        go_ret
        exact ⟨ret_bool (allB_no hlt (by simpa using he)).symm, rfl⟩
      · have he : (!hexB (f k)) = false := by assumption
        go_round
        case rel =>
          refine ⟨k + 1, by omega, by go_num, fun j h => ?_⟩
          by_cases e : j = k
          · subst e; simpa using he
          · exact HH.out j (by omega)
        case measure => simp [intOf]; omega
    · go_wp2
      go_ret
      exact ⟨ret_bool (allB_yes hlt HH.out).symm, rfl⟩
theorem allDigits_nil (cap : Nat) (w : World) :
    Calls Try.prog 10 #[.slice none 0 cap] w fun e w' => e = .returned (.bool true) ∧ w' = w := by
  go_enter Try.func10, Try.ntmps10
  go_wp2
  refine wp_loop_rounds 1 ?_
  rw [rounds_succ]
  go_wp2
  go_ret
  exact ⟨rfl, rfl⟩
end Go.Proofs.Qxb6617312a.Hex
