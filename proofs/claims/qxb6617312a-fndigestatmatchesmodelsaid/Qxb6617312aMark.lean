import Derived.Test.Qxb6617312aDig
import Derived.Deep.QuietTactic
import Derived.BigQuiet
namespace Go.Proofs.Qxb6617312a.Dig
open Go.ChangeShapes Go.WideShapes Go.ChangeAt Go.RowKit

def mk (k : Nat) : Int := [64, 115, 104, 97, 50, 53, 54, 58].getD k 0
theorem mark_of {f : Nat → Int} {s : Nat} (h : ∀ j, j < 8 → f (s + j) = mk j) : Mark f s :=
  ⟨h 0 (by omega), h 1 (by omega), h 2 (by omega), h 3 (by omega), h 4 (by omega), h 5 (by omega), h 6 (by omega), h 7 (by omega)⟩
theorem mark_at {f : Nat → Int} {s : Nat} (h : Mark f s) (j : Nat) (hj : j < 8) : f (s + j) = mk j := by
  obtain ⟨h0, h1, h2, h3, h4, h5, h6, h7⟩ := h
  have e : j = 0 ∨ j = 1 ∨ j = 2 ∨ j = 3 ∨ j = 4 ∨ j = 5 ∨ j = 6 ∨ j = 7 := by omega
  rcases e with rfl | rfl | rfl | rfl | rfl | rfl | rfl | rfl <;> assumption

theorem step_to {f : Nat → Int} {s k : Nat} (h : ∀ j, j < k → f (s + j) = mk j) (he : (f (s + k) != mk k) = false) : ∀ j, j < k + 1 → f (s + j) = mk j := by
  intro j hj
  by_cases e : j = k
  · subst e; simpa using he
  · exact h j (by omega)
set_option maxRecDepth 20000 in
theorem markAt_row (b off n cap s : Nat) (f : Nat → Int) (w : World) (hn : n ≤ maxLen) (hs : s + 8 ≤ n)
    (hcell : ∀ j, j < n → w.cell? ⟨b, off + j, none⟩ = some (.int .u8 (f j))) :
    Calls Try.prog 13 #[.slice (some ⟨b, off, none⟩) n cap, .int .i64 s] w fun e w' => Ans (Mark f s) e ∧ ∃ m, w' = w.drewN m := by
  unfold maxLen at hn
  go_enter Try.func13, Try.ntmps13
  go_wp2
  go_loopw [5] (fun i wr => ∃ k m : Nat, k ≤ 8 ∧ i = .int .i64 k ∧ wr = w.drewN m ∧ ∀ j, j < k → f (s + j) = mk j) (fun i _ => 8 - (intOf i).toNat)
  case atStart => exact ⟨0, 0, by omega, rfl, rfl, fun j h => by omega⟩
  case round =>
    obtain ⟨k, m, hk, rfl, rfl, hh⟩ := hrel
    have HH : Hid (∀ j, j < k → f (s + j) = mk j) := hh
    clear hh
    by_cases hlt : k < 8
    · have hc : w.cell? ⟨b, off + (s + k), none⟩ = some (.int .u8 (f (s + k))) := hcell (s + k) (by omega)
      have e : k = 0 ∨ k = 1 ∨ k = 2 ∨ k = 3 ∨ k = 4 ∨ k = 5 ∨ k = 6 ∨ k = 7 := by omega
      rcases e with rfl | rfl | rfl | rfl | rfl | rfl | rfl | rfl
      · simp only [Nat.add_zero] at hc
        go_wp2
        go_region
        go_wp2
        · have hne : (f (s + 0) != mk 0) = true := by assumption
          go_ret
          exact ⟨ans_no (fun h => by rw [mark_at h 0 (by omega)] at hne; exact absurd hne (by decide)), m + 1, rfl⟩
        · have heq : (f (s + 0) != mk 0) = false := by assumption
          go_roundw
          case rel => exact ⟨1, m + 1, by omega, rfl, rfl, step_to HH.out heq⟩
          case measure => decide
      · skip
        go_wp2
        go_region
        go_wp2
        · have hne : (f (s + 1) != mk 1) = true := by assumption
          go_ret
          exact ⟨ans_no (fun h => by rw [mark_at h 1 (by omega)] at hne; exact absurd hne (by decide)), m + 1, rfl⟩
        · have heq : (f (s + 1) != mk 1) = false := by assumption
          go_roundw
          case rel => exact ⟨2, m + 1, by omega, rfl, rfl, step_to HH.out heq⟩
          case measure => decide
      · skip
        go_wp2
        go_region
        go_wp2
        · have hne : (f (s + 2) != mk 2) = true := by assumption
          go_ret
          exact ⟨ans_no (fun h => by rw [mark_at h 2 (by omega)] at hne; exact absurd hne (by decide)), m + 1, rfl⟩
        · have heq : (f (s + 2) != mk 2) = false := by assumption
          go_roundw
          case rel => exact ⟨3, m + 1, by omega, rfl, rfl, step_to HH.out heq⟩
          case measure => decide
      · skip
        go_wp2
        go_region
        go_wp2
        · have hne : (f (s + 3) != mk 3) = true := by assumption
          go_ret
          exact ⟨ans_no (fun h => by rw [mark_at h 3 (by omega)] at hne; exact absurd hne (by decide)), m + 1, rfl⟩
        · have heq : (f (s + 3) != mk 3) = false := by assumption
          go_roundw
          case rel => exact ⟨4, m + 1, by omega, rfl, rfl, step_to HH.out heq⟩
          case measure => decide
      · skip
        go_wp2
        go_region
        go_wp2
        · have hne : (f (s + 4) != mk 4) = true := by assumption
          go_ret
          exact ⟨ans_no (fun h => by rw [mark_at h 4 (by omega)] at hne; exact absurd hne (by decide)), m + 1, rfl⟩
        · have heq : (f (s + 4) != mk 4) = false := by assumption
          go_roundw
          case rel => exact ⟨5, m + 1, by omega, rfl, rfl, step_to HH.out heq⟩
          case measure => decide
      · skip
        go_wp2
        go_region
        go_wp2
        · have hne : (f (s + 5) != mk 5) = true := by assumption
          go_ret
          exact ⟨ans_no (fun h => by rw [mark_at h 5 (by omega)] at hne; exact absurd hne (by decide)), m + 1, rfl⟩
        · have heq : (f (s + 5) != mk 5) = false := by assumption
          go_roundw
          case rel => exact ⟨6, m + 1, by omega, rfl, rfl, step_to HH.out heq⟩
          case measure => decide
      · skip
        go_wp2
        go_region
        go_wp2
        · have hne : (f (s + 6) != mk 6) = true := by assumption
          go_ret
          exact ⟨ans_no (fun h => by rw [mark_at h 6 (by omega)] at hne; exact absurd hne (by decide)), m + 1, rfl⟩
        · have heq : (f (s + 6) != mk 6) = false := by assumption
          go_roundw
          case rel => exact ⟨7, m + 1, by omega, rfl, rfl, step_to HH.out heq⟩
          case measure => decide
      · skip
        go_wp2
        go_region
        go_wp2
        · have hne : (f (s + 7) != mk 7) = true := by assumption
          go_ret
          exact ⟨ans_no (fun h => by rw [mark_at h 7 (by omega)] at hne; exact absurd hne (by decide)), m + 1, rfl⟩
        · have heq : (f (s + 7) != mk 7) = false := by assumption
          go_roundw
          case rel => exact ⟨8, m + 1, by omega, rfl, rfl, step_to HH.out heq⟩
          case measure => decide
    · go_wp2
      go_ret
      exact ⟨ans_yes (mark_of (fun j hj => HH.out j (by omega))), m, rfl⟩
end Go.Proofs.Qxb6617312a.Dig
