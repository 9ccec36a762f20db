import Derived.Test.Qxb6617312aModel
import Derived.Test.Qxb6617312aPre
import Derived.Lib.SlBytesConst
import Derived.Deep.CutRange
namespace Go.Proofs.Qxb6617312a.Dig
open Go.ChangeShapes Go.WideShapes Go.ChangeAt Go.RowKit

/-- where the tag was read to: j -/
structure At (f : Nat → Int) (n p j : Nat) : Prop where
  lo : p ≤ j
  hi : j ≤ p + 129
  le : j ≤ n
  mid : Mid (fun k => f (p + k)) (j - p)
  only : ∀ r, Ok f n p r → r = j + 8

theorem at_plain {f : Nat → Int} {n p : Nat} (hp : p ≤ n) (h : ¬ (p < n ∧ f p = 58)) : At f n p p :=
  ⟨Nat.le_refl _, by omega, hp, Or.inl (by omega), fun _ hr => only_plain h hr⟩
theorem bool_of {cb : Bool} {P : Prop} {x : Int} (h : cb = true ↔ (P ∧ x = 58)) (hp : P) : Value.bool (x == 58) = .bool cb := by
  congr 1
  cases cb
  · have : ¬ x = 58 := fun e => absurd (h.2 ⟨hp, e⟩) (by decide)
    simpa using this
  · have := (h.1 rfl).2
    simpa using this
theorem bool_off {cb : Bool} {P : Prop} {x : Int} (h : cb = true ↔ (P ∧ x = 58)) (hp : ¬ P) : Value.bool false = .bool cb := by
  cases cb
  · rfl
  · exact absurd (h.1 rfl).1 hp
/-- the cells of the mark's own row -/
def markV : Array Value := #[.int .u8 64, .int .u8 115, .int .u8 104, .int .u8 97, .int .u8 50, .int .u8 53, .int .u8 54, .int .u8 58]
theorem mark_cells (w : World) (k : Nat) (hk : k < 8) : (w.alloc (.cells markV 5 (8, 9))).cell? ⟨w.heap.size, 0 + k, none⟩ = some (.int .u8 (markL.getD k 0)) := by
  have e : k = 0 ∨ k = 1 ∨ k = 2 ∨ k = 3 ∨ k = 4 ∨ k = 5 ∨ k = 6 ∨ k = 7 := by omega
  have hg : (w.alloc (.cells markV 5 (8, 9))).heap[w.heap.size]? = some (.cells markV 5 (8, 9)) := by
    show (w.heap.push _)[w.heap.size]? = _
    simp
  have hc : (w.alloc (.cells markV 5 (8, 9))).cell? ⟨w.heap.size, 0 + k, none⟩ = markV[0 + k]? := by
    unfold World.cell?
    simp only [hg]
    rfl
  rw [hc]
  rcases e with rfl | rfl | rfl | rfl | rfl | rfl | rfl | rfl <;> rfl
theorem beq_dec (j i z : Nat) : ((j : Int) == (i : Int) + (z : Int) + 1) = decide (j = i + z + 1) := by
  by_cases e : j = i + z + 1
  · rw [decide_eq_true e]; simp; omega
  · rw [decide_eq_false e]; simp; omega
theorem at_tag {f : Nat → Int} {n p j : Nat} (hp : f p = 58) (hj : p + 1 < j) (hj2 : j ≤ p + 129) (hj3 : j ≤ n)
    (ht : ∀ k, p + 1 ≤ k → k < j → tagB (f k) (decide (k = p + 1)) = true)
    (hstop : ¬ (j < n ∧ j < p + 129 ∧ tagB (f j) (decide (j = p + 1)) = true)) : At f n p j :=
  ⟨by omega, hj2, hj3, mid_of hp hj hj2 ht, fun _ hr => (only_tag hp (by omega) ht hstop hr).1⟩
theorem ret_none {f : Nat → Int} {n p j : Nat} (hp : f p = 58) (hj : j = p + 1)
    (hstop : ¬ (j < n ∧ j < p + 129 ∧ tagB (f j) (decide (j = p + 1)) = true)) : RetRes f n p (.returned (.int .i64 (-1))) :=
  ret_no fun r hr => by
    have := (only_tag hp (by omega) (fun k a b => by omega) hstop hr).2
    omega
theorem step_tag {f : Nat → Int} {p j : Nat} (h : ∀ k, p + 1 ≤ k → k < j → tagB (f k) (decide (k = p + 1)) = true) (ht : tagB (f j) (decide (j = p + 1)) = true) :
    ∀ k, p + 1 ≤ k → k < j + 1 → tagB (f k) (decide (k = p + 1)) = true := by
  intro k a b
  by_cases e : k = j
  · subst e; exact ht
  · exact h k a (by omega)

set_option maxHeartbeats 1000000 in
set_option maxRecDepth 20000 in
theorem digestAt_row (b n i : Nat) (s : ByteArray) (f : Nat → Int) (w : World) (hn : n ≤ 262144) (hp : i + s.size ≤ n) (hb : b < w.heap.size) (hr : ∀ k, 0 ≤ f k ∧ f k < 256)
    (hcell : ∀ j, j < n → w.cell? ⟨b, 0 + j, none⟩ = some (.int .u8 (f j))) :
    Calls Try.prog 11 #[.slice (some ⟨b, 0, none⟩) n n, .int .i64 i, .string s] w fun e w' => RetRes f n (i + s.size) e ∧ Below w.heap.size w w' := by
  have HCell : Hid (∀ j, j < n → w.cell? ⟨b, 0 + j, none⟩ = some (.int .u8 (f j))) := hcell
  have HR : Hid (∀ k, 0 ≤ f k ∧ f k < 256) := hr
  clear hcell hr
  obtain ⟨cb, hcb⟩ : ∃ cb : Bool, (cb = true ↔ (i + s.size < n ∧ f (i + s.size) = 58)) := ⟨decide (i + s.size < n ∧ f (i + s.size) = 58), by simp⟩
  have HCB : Hid (cb = true ↔ (i + s.size < n ∧ f (i + s.size) = 58)) := hcb
  clear hcb
  have kc := fun (w : World) (C : Array Value) (n c : Nat) => Lib.run_convert_bytes_const (P := Try.prog) w 22 5 C n c Try.underlying22 Try.underlying5
  go_enter Try.func11, Try.ntmps11
  go_upto_region 2 with fail
  go_cut [24] from 10 to 87 (fun c wx => wx = w ∧ c = .bool cb)
  case first =>
    by_cases h1 : i + s.size < n
    · have hc : w.cell? ⟨b, i + s.size, none⟩ = some (.int .u8 (f (i + s.size))) := by have := HCell.out (i + s.size) h1; rwa [Nat.zero_add] at this
      go_wp2
      go_meet
      case rel => exact ⟨rfl, bool_of HCB.out h1⟩
    · go_wp2
      go_meet
      case rel => exact ⟨rfl, bool_off HCB.out h1⟩
  case rest =>
    obtain ⟨rfl, rfl⟩ := hcut
    go_upto_if 24 with fail
    go_cut [7] from 10 to 87 (fun c wx => wx = wc ∧ ∃ j : Nat, c = .int .i64 j ∧ At f n (i + s.size) j)
    case first =>
      cases hcbv : cb with
      | false =>
        have H0 : Hid (¬ (i + s.size < n ∧ f (i + s.size) = 58)) := fun h => by rw [HCB.out.2 h] at hcbv; exact absurd hcbv (by decide)
        subst hcbv
        go_wp2
        go_meet
        case rel => exact ⟨rfl, i + s.size, by go_num, at_plain hp H0.out⟩
      | true =>
        obtain ⟨h1, h58⟩ := HCB.out.1 hcbv
        have H58 : Hid (f (i + s.size) = 58) := h58
        clear h58
        subst hcbv
        go_wp2
        go_loop [7] (fun c => ∃ j : Nat, i + s.size + 1 ≤ j ∧ j ≤ i + s.size + 129 ∧ j ≤ n ∧ c = .int .i64 j ∧ ∀ k, i + s.size + 1 ≤ k → k < j → tagB (f k) (decide (k = i + s.size + 1)) = true) (fun c => n - (intOf c).toNat)
        case atStart => exact ⟨i + s.size + 1, by omega, by omega, by omega, by go_num, fun k a b => by omega⟩
        case round =>
          obtain ⟨j, hj1, hj2, hj3, rfl, ht⟩ := hrel
          have HT : Hid (∀ k, i + s.size + 1 ≤ k → k < j → tagB (f k) (decide (k = i + s.size + 1)) = true) := ht
          clear ht
          by_cases hgo : j < n ∧ j < i + s.size + 129
          · obtain ⟨g1, g2⟩ := hgo
            have hc : wc.cell? ⟨b, j, none⟩ = some (.int .u8 (f j)) := by have := HCell.out j g1; rwa [Nat.zero_add] at this
            have HD : Hid (((j : Int) == (i : Int) + (s.size : Int) + 1) = decide (j = i + s.size + 1)) := beq_dec j i s.size
            by_cases hst : j = i + s.size + 1
            · have HS : Hid (j = i + s.size + 1) := hst
              have hx : ((j : Int) == (i : Int) + (s.size : Int) + 1) = true := by rw [HD.out]; exact decide_eq_true hst
              clear hst
              go_wp2_with (first
                | (go_at_call 17; go_must (refine (isTag_any _ _ _).mono ?_); rintro e w' ⟨rfl, rfl⟩))
              · have ht : tagB (f j) true = true := by assumption
                go_round
                case rel => exact ⟨j + 1, by omega, by omega, by omega, by go_num, step_tag HT.out (by rw [← HD.out, hx]; exact ht)⟩
                case measure => simp [intOf]; omega
              · have ht : tagB (f j) true = false := by assumption
                go_ret
                exact ⟨ret_none H58.out HS.out (fun h => not_both h.2.2 (by rw [← HD.out, hx]; exact ht)), Below.refl _ _⟩
            · have hx : ((j : Int) == (i : Int) + (s.size : Int) + 1) = false := by rw [HD.out]; exact decide_eq_false hst
              go_wp2_with (first
                | (go_at_call 17; go_must (refine (isTag_any _ _ _).mono ?_); rintro e w' ⟨rfl, rfl⟩))
              · have ht : tagB (f j) false = true := by assumption
                go_round
                case rel => exact ⟨j + 1, by omega, by omega, by omega, by go_num, step_tag HT.out (by rw [← HD.out, hx]; exact ht)⟩
                case measure => simp [intOf]; omega
              · have ht : tagB (f j) false = false := by assumption
                go_meet
                case rel => exact ⟨rfl, j, rfl, at_tag H58.out (by omega) hj2 hj3 HT.out (fun h => not_both h.2.2 (by rw [← HD.out, hx]; exact ht))⟩
          · have hstop : ¬ (j < n ∧ j < i + s.size + 129 ∧ tagB (f j) (decide (j = i + s.size + 1)) = true) := fun h => hgo ⟨h.1, h.2.1⟩
            have HS : Hid (¬ (j < n ∧ j < i + s.size + 129 ∧ tagB (f j) (decide (j = i + s.size + 1)) = true)) := hstop
            clear hstop
            by_cases hjn : j < n
            · go_wp2
              go_meet
              case rel => exact ⟨rfl, j, rfl, at_tag H58.out (by omega) hj2 hj3 HT.out HS.out⟩
            · have HD : Hid (((j : Int) == (i : Int) + (s.size : Int) + 1) = decide (j = i + s.size + 1)) := beq_dec j i s.size
              go_wp2
              · have hx : ((j : Int) == (i : Int) + (s.size : Int) + 1) = true := by assumption
                go_ret
                exact ⟨ret_none H58.out (of_decide_eq_true (HD.out ▸ hx)) HS.out, Below.refl _ _⟩
              · have hx : ((j : Int) == (i : Int) + (s.size : Int) + 1) = false := by assumption
                have hx' : ¬ j = i + s.size + 1 := of_decide_eq_false (HD.out ▸ hx)
                go_meet
                case rel => exact ⟨rfl, j, rfl, at_tag H58.out (by omega) hj2 hj3 HT.out HS.out⟩
    case rest =>
      obtain ⟨rfl, j, rfl, hat⟩ := hcut
      have hj1 := hat.lo
      have hj2 := hat.hi
      have hj3 := hat.le
      have HAt : Hid (At f n (i + s.size) j) := hat
      clear hat
      have hbel : Below wc.heap.size wc (wc.alloc (.cells markV 5 (8, 9))) := (Below.refl _ _).alloc (Nat.le_refl _) _
      by_cases h8 : j + 8 ≤ n
      · have c18 := prefix_long b 0 j (n - j) (n - j) wc.heap.size f (wc.alloc (.cells markV 5 (8, 9))) HR.out (by omega) (Nat.le_refl _) (fun k hk => cell_later hbel (HCell.out (j + k) (by omega))) (mark_cells wc)
        rw [Nat.zero_add] at c18
        by_cases h72 : j + 72 ≤ n
        · have c15 := Hex.isHex_row b (j + 8) 64 (n - (j + 8)) (fun k => f (j + 8 + k)) (wc.alloc (.cells markV 5 (8, 9))) (by unfold maxLen; omega) (fun k hk => by have := cell_later hbel (HCell.out (j + 8 + k) (by omega)); rwa [Nat.zero_add] at this)
          generalize HA : Hex.allB (fun k => Hex.hexB (f (j + 8 + k))) 64 = A at *
          have HA' : Hid (Hex.allB (fun k => Hex.hexB (f (j + 8 + k))) 64 = A) := HA
          clear HA
          unfold markV at *
          by_cases hend : j + 72 < n
          · have hc : wc.cell? ⟨b, j + 8 + 64, none⟩ = some (.int .u8 (f (j + 72))) := by have := HCell.out (j + 72) (by omega); rwa [Nat.zero_add, show j + 72 = j + 8 + 64 by omega] at this
            go_wp2_with (first
              | (go_at_call 18; go_must (refine c18.mono ?_); rintro e w' ⟨⟨b18, rfl, h18⟩, rfl⟩; have H18 : Hid (b18 = true ↔ Mark f j) := h18; clear h18)
              | (go_at_call 15; go_must (refine c15.mono ?_); rintro e w' ⟨rfl, rfl⟩)
              | (go_at_call 19; go_must (refine (alnum_any _ _).mono ?_); rintro e w' ⟨rfl, rfl⟩))
            · go_ret
              exact ⟨⟨_, rfl, res_no (fun h => no_of ‹(!b18) = true› H18.out h.2.1) HAt.out.only⟩, hbel⟩
            · go_ret
              exact ⟨⟨_, rfl, res_no (fun h => no_of ‹(!A) = true› Iff.rfl (HA'.out ▸ h.2.2.1)) HAt.out.only⟩, hbel⟩
            · go_ret
              exact ⟨⟨_, rfl, res_no (fun h => h.2.2.2 ⟨hend, ‹_›⟩) HAt.out.only⟩, hbel⟩
            · go_ret
              exact ⟨⟨_, rfl, res_yes ⟨h72, yes_of ‹(!b18) = false› H18.out, HA'.out.trans (yes_of ‹(!A) = false› Iff.rfl), fun h => not_both h.2 ‹_›⟩ HAt.out.lo HAt.out.hi HAt.out.mid⟩, hbel⟩
          · skip
            go_wp2_with (first
              | (go_at_call 18; go_must (refine c18.mono ?_); rintro e w' ⟨⟨b18, rfl, h18⟩, rfl⟩; have H18 : Hid (b18 = true ↔ Mark f j) := h18; clear h18)
              | (go_at_call 15; go_must (refine c15.mono ?_); rintro e w' ⟨rfl, rfl⟩))
            · go_ret
              exact ⟨⟨_, rfl, res_no (fun h => no_of ‹(!b18) = true› H18.out h.2.1) HAt.out.only⟩, hbel⟩
            · go_ret
              exact ⟨⟨_, rfl, res_no (fun h => no_of ‹(!A) = true› Iff.rfl (HA'.out ▸ h.2.2.1)) HAt.out.only⟩, hbel⟩
            · go_ret
              exact ⟨⟨_, rfl, res_yes ⟨h72, yes_of ‹(!b18) = false› H18.out, HA'.out.trans (yes_of ‹(!A) = false› Iff.rfl), fun h => hend h.1⟩ HAt.out.lo HAt.out.hi HAt.out.mid⟩, hbel⟩
        · unfold markV at *
          go_wp2_with (first
            | (go_at_call 18; go_must (refine c18.mono ?_); rintro e w' ⟨⟨b18, rfl, h18⟩, rfl⟩; have H18 : Hid (b18 = true ↔ Mark f j) := h18; clear h18))
          all_goals
            go_ret
            exact ⟨⟨_, rfl, res_no (fun h => h72 h.1) HAt.out.only⟩, hbel⟩
      · unfold markV at *
        by_cases hjn : j < n
        all_goals
          go_wp2_with (first
            | (go_at_call 18; go_must (refine (prefix_short _ _ _ _ _ (by omega)).mono ?_); rintro e w' ⟨rfl, rfl⟩))
          go_ret
          exact ⟨⟨_, rfl, res_no (fun h => by have := h.1; omega) HAt.out.only⟩, hbel⟩
end Go.Proofs.Qxb6617312a.Dig
