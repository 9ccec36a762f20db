import Derived.Test.Qxb6617312aDig
namespace Go.Proofs.Qxb6617312a.Dig
open Go.ChangeShapes Go.WideShapes Go.ChangeAt Go.RowKit

theorem tagB_iff {c : Int} {first : Bool} : tagB c first = true ↔ alnB c = true ∨ c = 95 ∨ (first = false ∧ (c = 46 ∨ c = 45)) := by
  unfold tagB
  simp [or_assoc]
theorem later {k : Nat} (h : 0 < k) : decide (k + 1 = 1) = false := decide_eq_false (by omega)
theorem next_tag {g : Nat → Int} {k : Nat} (h : ∀ j, 1 ≤ j → j < k + 1 → tagB (g j) (decide (j = 1)) = true) (ht : tagB (g (k + 1)) (decide (k + 1 = 1)) = true) :
    ∀ j, 1 ≤ j → j < k + 1 + 1 → tagB (g j) (decide (j = 1)) = true := by
  intro j h1 h2
  by_cases e : j = k + 1
  · subst e; exact ht
  · exact h j h1 (by omega)
theorem mid_stop {g : Nat → Int} {len k : Nat} (h1 : 1 ≤ k) (h2 : k < len) (ht : ¬ tagB (g k) (decide (k = 1)) = true) : ¬ Mid g len := by
  rintro (h | ⟨_, _, _, h⟩)
  · omega
  · exact ht (h k h1 h2)
theorem mid_none (a : Option Addr) (cap : Nat) (g : Nat → Int) (w : World) :
    Calls Try.prog 12 #[.slice a 0 cap] w fun e w' => Ans (Mid g 0) e ∧ w' = w := by
  go_enter Try.func12, Try.ntmps12
  go_wp2
  go_ret
  exact ⟨ans_yes (Or.inl rfl), rfl⟩

set_option maxHeartbeats 1000000 in
set_option maxRecDepth 20000 in
theorem middle_row (b off len cap : Nat) (g : Nat → Int) (w : World) (hl : len < cap) (_hn : cap ≤ maxLen)
    (hcell : ∀ j, j < len → w.cell? ⟨b, off + j, none⟩ = some (.int .u8 (g j))) :
    Calls Try.prog 12 #[.slice (some ⟨b, off, none⟩) len cap] w fun e w' => Ans (Mid g len) e ∧ w' = w := by
  unfold maxLen at _hn
  by_cases h0 : len = 0
  · subst h0
    exact mid_none _ _ _ _
  · have hc0 : w.cell? ⟨b, off, none⟩ = some (.int .u8 (g 0)) := hcell 0 (by omega)
    by_cases h58 : g 0 = 58
    · by_cases hlen : 2 ≤ len ∧ len ≤ 129
      · obtain ⟨hl1, hl2⟩ := hlen
        rw [h58] at hc0
        have H58 : Hid (g 0 = 58) := h58
        clear h58
        go_enter Try.func12, Try.ntmps12
        go_wp2
        go_loop [4] (fun i => ∃ k : Nat, k + 1 ≤ len ∧ i = .int .i64 k ∧ ∀ j, 1 ≤ j → j < k + 1 → tagB (g j) (decide (j = 1)) = true) (fun i => len - (intOf i).toNat)
        case atStart => exact ⟨0, by omega, rfl, fun j h1 h2 => by omega⟩
        case round =>
          obtain ⟨k, hk, rfl, hh⟩ := hrel
          have HH : Hid (∀ j, 1 ≤ j → j < k + 1 → tagB (g j) (decide (j = 1)) = true) := hh
          clear hh
          by_cases hlt : k + 1 < len
          · have hc : w.cell? ⟨b, off + 1 + k, none⟩ = some (.int .u8 (g (k + 1))) := by
              have := hcell (k + 1) hlt
              rwa [show off + (k + 1) = off + 1 + k by omega] at this
            go_wp2_with (go_at_call 14; refine (zzAlnum_any _ _).mono ?_; rintro e w' ⟨rfl, rfl⟩)
            · go_round
              case rel => exact ⟨k + 1, by omega, by go_num, next_tag HH.out (tagB_iff.2 (Or.inl ‹_›))⟩
              case measure => simp [intOf]; omega
            · have h95 : (g (k + 1) == 95) = true := by assumption
              go_round
              case rel => exact ⟨k + 1, by omega, by go_num, next_tag HH.out (tagB_iff.2 (Or.inr (Or.inl (eq_of_beq h95))))⟩
              case measure => simp [intOf]; omega
            · have h46 : g (k + 1) = 46 := by assumption
              have hk0 : 0 < k := by assumption
              go_round
              case rel => exact ⟨k + 1, by omega, by go_num, next_tag HH.out (tagB_iff.2 (Or.inr (Or.inr ⟨later hk0, Or.inl h46⟩)))⟩
              case measure => simp [intOf]; omega
            · have h4 : (g (k + 1) == 46) = true ∨ (g (k + 1) == 45) = true := by assumption
              have hk0 : 0 < k := by assumption
              go_round
              case rel => exact ⟨k + 1, by omega, by go_num, next_tag HH.out (tagB_iff.2 (Or.inr (Or.inr ⟨later hk0, by simpa using h4⟩)))⟩
              case measure => simp [intOf]; omega
            · have ha : ¬ alnB (g (k + 1)) = true := by assumption
              have h95 : (g (k + 1) == 95) = false := by assumption
              have h4 : (g (k + 1) == 46) = false ∧ (g (k + 1) == 45) = false := by assumption
              go_ret
              exact ⟨ans_no (mid_stop (k := k + 1) (by omega) hlt (fun h => by
                rcases tagB_iff.1 h with h | h | ⟨_, h | h⟩
                · exact ha h
                · rw [h] at h95; exact absurd h95 (by decide)
                · rw [h] at h4; exact absurd h4.1 (by decide)
                · rw [h] at h4; exact absurd h4.2 (by decide))), rfl⟩
            · have ha : ¬ alnB (g (k + 1)) = true := by assumption
              have h95 : (g (k + 1) == 95) = false := by assumption
              have hk0 : ¬ 0 < k := by assumption
              go_ret
              exact ⟨ans_no (mid_stop (k := k + 1) (by omega) hlt (fun h => by
                rcases tagB_iff.1 h with h | h | ⟨h, _⟩
                · exact ha h
                · rw [h] at h95; exact absurd h95 (by decide)
                · rw [decide_eq_true (by omega)] at h; exact absurd h (by decide))), rfl⟩
          · go_wp2
            go_ret
            exact ⟨ans_yes (Or.inr ⟨H58.out, hl1, hl2, fun j a c => HH.out j a (by omega)⟩), rfl⟩
      · have H : Hid (¬ Mid g len) := by
          rintro (h | ⟨_, h1, h2, _⟩)
          · exact h0 h
          · exact hlen ⟨h1, h2⟩
        rw [h58] at hc0
        clear h58
        by_cases h1 : len < 2
        all_goals
          go_enter Try.func12, Try.ntmps12
          go_wp2
          go_ret
          exact ⟨ans_no H.out, rfl⟩
    · have H : Hid (¬ Mid g len) := by
        rintro (h | ⟨h, _⟩)
        · exact h0 h
        · exact h58 h
      have hb : (g 0 != 58) = true := by simpa using h58
      clear h58
      go_enter Try.func12, Try.ntmps12
      go_wp2
      go_ret
      exact ⟨ans_no H.out, rfl⟩
end Go.Proofs.Qxb6617312a.Dig
