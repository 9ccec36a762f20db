import Derived.Test.Qxb6617312aMark
import Derived.Test.Qxb6617312aMid
import Derived.WalkSpells
namespace Go.Proofs.Qxb6617312a.Dig
open Go.ChangeShapes Go.WideShapes Go.ChangeAt Go.RowKit

def RetRes (f : Nat → Int) (n p : Nat) (e : Ending) : Prop := ∃ v : Int, e = .returned (.int .i64 v) ∧ Res f n p v
theorem ret_yes {f : Nat → Int} {n p r : Nat} (h : Ok f n p r) : RetRes f n p (.returned (.int .i64 (r : Int))) := ⟨_, rfl, Or.inl ⟨r, rfl, h⟩⟩
theorem ret_no {f : Nat → Int} {n p : Nat} (h : ∀ r, ¬ Ok f n p r) : RetRes f n p (.returned (.int .i64 (-1))) := ⟨_, rfl, Or.inr ⟨rfl, h⟩⟩
theorem next_no {f : Nat → Int} {n p r : Nat} (h : ∀ q, q < r → ¬ Ok f n p q) (hr : ¬ Ok f n p r) : ∀ q, q < r + 1 → ¬ Ok f n p q := by
  intro q hq
  by_cases e : q = r
  · subst e; exact hr
  · exact h q (by omega)

theorem not_both {b : Bool} (h : b = true) (k : b = false) : False := by rw [h] at k; exact absurd k (by decide)
theorem no_of {b : Bool} {P : Prop} (h : (!b) = true) (i : b = true ↔ P) : ¬ P := fun p => by rw [i.2 p] at h; exact absurd h (by decide)
theorem yes_of {b : Bool} {P : Prop} (h : (!b) = false) (i : b = true ↔ P) : P := i.1 (by simpa using h)

set_option maxHeartbeats 1000000 in
set_option maxRecDepth 20000 in
theorem model_row (b n p : Nat) (f : Nat → Int) (w : World) (hn : n ≤ 262144) (hp : p ≤ n)
    (hcell : ∀ j, j < n → w.cell? ⟨b, 0 + j, none⟩ = some (.int .u8 (f j))) :
    Calls Try.prog 7 #[.slice (some ⟨b, 0, none⟩) n n, .int .i64 p] w fun e w' => RetRes f n p e ∧ ∃ m, w' = w.drewN m := by
  have HCell : Hid (∀ j, j < n → w.cell? ⟨b, 0 + j, none⟩ = some (.int .u8 (f j))) := hcell
  clear hcell
  go_enter Try.func7, Try.ntmps7
  go_wp2
  go_loopw [5] (fun i wr => ∃ r m : Nat, p + 8 ≤ r ∧ r ≤ p + 138 ∧ i = .int .i64 r ∧ wr = w.drewN m ∧ ∀ q, q < r → ¬ Ok f n p q) (fun i _ => p + 138 - (intOf i).toNat)
  case atStart => exact ⟨p + 8, 0, by omega, by omega, by go_num, rfl, fun q h => by rintro ⟨h1, _⟩; omega⟩
  case round =>
    obtain ⟨r, m, hr1, hr2, rfl, rfl, hh⟩ := hrel
    have HH : Hid (∀ q, q < r → ¬ Ok f n p q) := hh
    clear hh
    by_cases hr : r ≤ p + 137
    · by_cases hfit : r + 64 ≤ n
      · have c12 : ∀ m, Calls Try.prog 12 #[.slice (some ⟨b, p, none⟩) (r - 8 - p) (n - p)] (w.drewN m) fun e w' => Ans (Mid (fun j => f (p + j)) (r - 8 - p)) e ∧ w' = w.drewN m := fun m =>
          middle_row b p (r - 8 - p) (n - p) (fun j => f (p + j)) (w.drewN m) (by omega) (by unfold maxLen; omega) (fun j hj => by have := HCell.out (p + j) (by omega); rwa [Nat.zero_add] at this)
        have c13 : ∀ m, Calls Try.prog 13 #[.slice (some ⟨b, 0, none⟩) n n, .int .i64 ((r : Int) - 8)] (w.drewN m) fun e w' => Ans (Mark f (r - 8)) e ∧ ∃ m', w' = (w.drewN m).drewN m' := fun m => by
          have := markAt_row b 0 n n (r - 8) f (w.drewN m) (by unfold maxLen; omega) (by omega) HCell.out
          rwa [show ((r - 8 : Nat) : Int) = (r : Int) - 8 by omega] at this
        have c10 : ∀ m, Calls Try.prog 10 #[.slice (some ⟨b, r, none⟩) 64 (n - r)] (w.drewN m) fun e w' => e = .returned (.bool (Hex.allB (fun j => Hex.hexB (f (r + j))) 64)) ∧ w' = w.drewN m := fun m =>
          Hex.allDigits_row b r 64 (n - r) (fun j => f (r + j)) (w.drewN m) (by unfold maxLen; omega) (fun j hj => by have := HCell.out (r + j) (by omega); rwa [Nat.zero_add] at this)
        generalize HA : Hex.allB (fun j => Hex.hexB (f (r + j))) 64 = A at *
        have HA' : Hid (Hex.allB (fun j => Hex.hexB (f (r + j))) 64 = A) := HA
        clear HA
        by_cases hend : r + 64 < n
        · have hc : w.cell? ⟨b, r + 64, none⟩ = some (.int .u8 (f (r + 64))) := by have := HCell.out (r + 64) (by omega); rwa [Nat.zero_add] at this
          go_wp2_with (first
            | (go_at_call 12; go_must (refine (c12 _).mono ?_); rintro e w' ⟨⟨b12, rfl, h12⟩, rfl⟩; have H12 : Hid (b12 = true ↔ Mid (fun j => f (p + j)) (r - 8 - p)) := h12; clear h12)
            | (go_at_call 13; go_must (refine (c13 _).mono ?_); rintro e w' ⟨⟨b13, rfl, h13⟩, m', rfl⟩; have H13 : Hid (b13 = true ↔ Mark f (r - 8)) := h13; clear h13)
            | (go_at_call 10; go_must (refine (c10 _).mono ?_); rintro e w' ⟨rfl, rfl⟩)
            | (go_at_call 14; go_must (refine (zzAlnum_any _ _).mono ?_); rintro e w' ⟨rfl, rfl⟩))
          · go_roundw
            case rel => exact ⟨r + 1, m, by omega, by omega, by go_num, rfl, next_no HH.out (fun h => no_of ‹(!b12) = true› H12.out h.2.2.2.1)⟩
            case measure => simp [intOf]; omega
          · go_roundw
            case rel => exact ⟨r + 1, m + m', by omega, by omega, by go_num, rfl, next_no HH.out (fun h => no_of ‹(!b13) = true› H13.out h.2.2.2.2.1)⟩
            case measure => simp [intOf]; omega
          · go_roundw
            case rel => exact ⟨r + 1, m + m', by omega, by omega, by go_num, rfl, next_no HH.out (fun h => no_of ‹(!A) = true› Iff.rfl (HA'.out ▸ h.2.2.2.2.2.1))⟩
            case measure => simp [intOf]; omega
          · go_roundw
            case rel => exact ⟨r + 1, m + m', by omega, by omega, by go_num, rfl, next_no HH.out (fun h => h.2.2.2.2.2.2 ⟨hend, ‹_›⟩)⟩
            case measure => simp [intOf]; omega
          · go_ret
            exact ⟨ret_yes ⟨hr1, hr, hfit, yes_of ‹(!b12) = false› H12.out, yes_of ‹(!b13) = false› H13.out, HA'.out.trans (yes_of ‹(!A) = false› Iff.rfl), fun h => not_both h.2 ‹_›⟩, m + m', rfl⟩
        · skip
          go_wp2_with (first
            | (go_at_call 12; go_must (refine (c12 _).mono ?_); rintro e w' ⟨⟨b12, rfl, h12⟩, rfl⟩; have H12 : Hid (b12 = true ↔ Mid (fun j => f (p + j)) (r - 8 - p)) := h12; clear h12)
            | (go_at_call 13; go_must (refine (c13 _).mono ?_); rintro e w' ⟨⟨b13, rfl, h13⟩, m', rfl⟩; have H13 : Hid (b13 = true ↔ Mark f (r - 8)) := h13; clear h13)
            | (go_at_call 10; go_must (refine (c10 _).mono ?_); rintro e w' ⟨rfl, rfl⟩)
            | (go_at_call 14; go_must (refine (zzAlnum_any _ _).mono ?_); rintro e w' ⟨rfl, rfl⟩))
          · go_roundw
            case rel => exact ⟨r + 1, m, by omega, by omega, by go_num, rfl, next_no HH.out (fun h => no_of ‹(!b12) = true› H12.out h.2.2.2.1)⟩
            case measure => simp [intOf]; omega
          · go_roundw
            case rel => exact ⟨r + 1, m + m', by omega, by omega, by go_num, rfl, next_no HH.out (fun h => no_of ‹(!b13) = true› H13.out h.2.2.2.2.1)⟩
            case measure => simp [intOf]; omega
          · go_roundw
            case rel => exact ⟨r + 1, m + m', by omega, by omega, by go_num, rfl, next_no HH.out (fun h => no_of ‹(!A) = true› Iff.rfl (HA'.out ▸ h.2.2.2.2.2.1))⟩
            case measure => simp [intOf]; omega
          · go_ret
            exact ⟨ret_yes ⟨hr1, hr, hfit, yes_of ‹(!b12) = false› H12.out, yes_of ‹(!b13) = false› H13.out, HA'.out.trans (yes_of ‹(!A) = false› Iff.rfl), fun h => hend h.1⟩, m + m', rfl⟩
      · go_wp2
        go_ret
        exact ⟨ret_no (fun q => by
          by_cases e : q < r
          · exact HH.out q e
          · rintro ⟨_, _, h3, _⟩; omega), m, rfl⟩
    · go_wp2
      go_ret
      exact ⟨ret_no (fun q => by
        by_cases e : q < r
        · exact HH.out q e
        · rintro ⟨_, h2, _⟩; omega), m, rfl⟩
end Go.Proofs.Qxb6617312a.Dig
