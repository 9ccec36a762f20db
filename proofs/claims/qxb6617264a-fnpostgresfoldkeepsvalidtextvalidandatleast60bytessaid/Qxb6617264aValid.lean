import Derived.Test.Qxb6617264aUtf
import Derived.Deep.CutRange
namespace Go.Proofs.Qxb6617264a.Utf
open Go.ChangeShapes Go.WideShapes Go.ChangeAt Go.RowKit

/-- what the first byte c says: the character's bytes, the second byte's bounds -/
def Cls (c : Int) (st : Nat) (lo hi : Int) : Prop :=
  (st = 2 ∧ 194 ≤ c ∧ c ≤ 223 ∧ lo = 128 ∧ hi = 191) ∨
  (st = 3 ∧ ((c = 224 ∧ lo = 160 ∧ hi = 191) ∨ (225 ≤ c ∧ c ≤ 239 ∧ c ≠ 237 ∧ lo = 128 ∧ hi = 191) ∨ (c = 237 ∧ lo = 128 ∧ hi = 159))) ∨
  (st = 4 ∧ ((c = 240 ∧ lo = 144 ∧ hi = 191) ∨ (241 ≤ c ∧ c ≤ 243 ∧ lo = 128 ∧ hi = 191) ∨ (c = 244 ∧ lo = 128 ∧ hi = 143)))

theorem classes (c : Int) : (194 ≤ c ∧ c ≤ 223) ∨ (224 ≤ c ∧ c ≤ 224) ∨ ((225 ≤ c ∧ c ≤ 236)) ∨ (237 ≤ c ∧ c ≤ 237) ∨ (238 ≤ c ∧ c ≤ 238) ∨ (239 ≤ c ∧ c ≤ 239) ∨ (240 ≤ c ∧ c ≤ 240) ∨ (241 ≤ c ∧ c ≤ 243) ∨ (244 ≤ c ∧ c ≤ 244) ∨ (c < 194 ∨ 244 < c) := by omega

/-- THE ANSWER: true just where the text is valid -/
def Ans (s : ByteArray) (e : Ending) : Prop := ∃ b : Bool, e = .returned (.bool b) ∧ (b = true ↔ Val s 0)

theorem ans_no {s : ByteArray} {i : Nat} (hi : i < s.size) (hv : Val s 0 ↔ Val s i) (g : ∀ st, ¬ Good s i st) : Ans s (.returned (.bool false)) :=
  ⟨false, rfl, by simp only [Bool.false_eq_true, false_iff]; exact fun h => val_no hi g (hv.1 h)⟩
theorem bad1 {s : ByteArray} {i : Nat} (h0 : 128 ≤ bt s i) (h : bt s i < 194 ∨ 244 < bt s i) (st : Nat) : ¬ Good s i st := by
  intro g; unfold Good at g; omega
theorem bad2 {s : ByteArray} {i st : Nat} {lo hi : Int} (c : Cls (bt s i) st lo hi) (h : s.size < i + st) (n : Nat) : ¬ Good s i n := by
  intro g; unfold Good at g; unfold Cls at c; omega
theorem bad3 {s : ByteArray} {i st : Nat} {lo hi : Int} (c : Cls (bt s i) st lo hi) (h : bt s (i + 1) < lo ∨ hi < bt s (i + 1)) (n : Nat) : ¬ Good s i n := by
  intro g; unfold Good at g; unfold Cls at c; omega
theorem bad4 {s : ByteArray} {i st m : Nat} {lo hi : Int} (c : Cls (bt s i) st lo hi) (h2 : 2 ≤ m) (h3 : m < st) (h : bt s (i + m) < 128 ∨ 191 < bt s (i + m)) (n : Nat) : ¬ Good s i n := by
  intro g
  have e : m = 2 ∨ m = 3 := by unfold Cls at c; omega
  unfold Good at g; unfold Cls at c
  rcases e with rfl | rfl <;> omega
theorem good_of {s : ByteArray} {i st : Nat} {lo hi : Int} (c : Cls (bt s i) st lo hi) (hz : i + st ≤ s.size) (h1 : lo ≤ bt s (i + 1)) (h2 : bt s (i + 1) ≤ hi)
    (h : ∀ m, 2 ≤ m → m < st → 128 ≤ bt s (i + m) ∧ bt s (i + m) ≤ 191) : Good s i st := by
  have g2 := h 2 (by omega)
  have g3 := h 3 (by omega)
  unfold Cls at c
  unfold Good
  rcases c with ⟨rfl, c⟩ | ⟨rfl, c⟩ | ⟨rfl, c⟩
  · exact Or.inr (Or.inl ⟨rfl, hz, by omega⟩)
  · have := g2 (by omega)
    exact Or.inr (Or.inr (Or.inl ⟨rfl, hz, this.1, this.2, by omega⟩))
  · have a := g2 (by omega)
    have b := g3 (by omega)
    exact Or.inr (Or.inr (Or.inr ⟨rfl, hz, a.1, a.2, b.1, b.2, by omega⟩))

set_option maxHeartbeats 1000000 in
set_option maxRecDepth 20000 in
theorem valid_any (s : ByteArray) (w : World) (hs : s.size ≤ maxLen) :
    Calls Try.prog 11 #[.string s] w fun e w' => Ans s e ∧ w' = w := by
  unfold maxLen at hs
  go_enter Try.func11, Try.ntmps11
  go_wp2
  go_loopg [3] s.size (fun g n wx => wx = w ∧ ∃ i : Nat, i + g = s.size ∧ n = .int .i64 i ∧ (Val s 0 ↔ Val s i))
  case atStart => exact ⟨rfl, 0, by omega, rfl, Iff.rfl⟩
  case round =>
    obtain ⟨rfl, i, hi, rfl, hv⟩ := hrel
    have HV : Hid (Val s 0 ↔ Val s i) := hv
    have HI : Hid (i + gk = s.size) := hi
    have hi' : i ≤ s.size := by omega
    clear hv hi
    by_cases hlt : i < s.size
    · have HB : Hid (bt s i = (s[i].toNat : Int)) := bt_at s i hlt
      go_upto_region 9 with fail
      · have hc : (s[i].toNat : Int) < 128 := by assumption
        go_roundg (gk - 1)
        case measure => have := HI.out; omega
        case rel => exact ⟨rfl, i + 1, by have := HI.out; omega, by go_num, HV.out.trans (val_step hlt (Or.inl ⟨rfl, by rw [HB.out]; exact hc⟩))⟩
      · go_cut [25] from 9 to 95 (fun b wx => wx = wr ∧ b = .bool (decide (194 ≤ (s[i].toNat : Int) ∧ (s[i].toNat : Int) ≤ 223)))
        case first =>
          go_wp2
          · go_meet
            case rel => exact ⟨rfl, by simp [*]⟩
          · go_meet
            case rel =>
              refine ⟨rfl, ?_⟩
              have h : (s[i].toNat : Int) < 194 := by assumption
              rw [decide_eq_false (by omega)]
        case rest =>
          obtain ⟨rfl, rfl⟩ := hcut
          go_upto_if 25 with fail
          have HL : Hid (128 ≤ bt s i) := by show 128 ≤ bt s i; rw [HB.out]; assumption
          go_cut [4, 5, 6, 7] from 9 to 95 (fun _ s5 s6 s7 wx => wx = wc ∧ ∃ (st : Nat) (lo hi : Int), s5 = .int .i64 st ∧ s6 = .int .u8 lo ∧ s7 = .int .u8 hi ∧ Cls (bt s i) st lo hi)
          case first =>
            have hcl := classes (s[i].toNat : Int)
            rcases hcl with ⟨c1, c2⟩ | ⟨c1, c2⟩ | ⟨c1, c2⟩ | ⟨c1, c2⟩ | ⟨c1, c2⟩ | ⟨c1, c2⟩ | ⟨c1, c2⟩ | ⟨c1, c2⟩ | ⟨c1, c2⟩ | c2
            all_goals go_wp2
            all_goals first
              | (go_meet
                 case rel =>
                   first
                     | refine ⟨rfl, 2, _, _, rfl, rfl, rfl, ?_⟩
                     | refine ⟨rfl, 3, _, _, rfl, rfl, rfl, ?_⟩
                     | refine ⟨rfl, 4, _, _, rfl, rfl, rfl, ?_⟩
                   rw [HB.out]
                   unfold Cls
                   first
                     | omega
                     | (simp only [beq_iff_eq] at *; omega))
              | (go_ret
                 refine ⟨ans_no hlt HV.out (bad1 HL.out (by rw [HB.out]; first | omega | (simp only [beq_eq_false_iff_ne] at *; omega))), rfl⟩)
          case rest =>
            obtain ⟨rfl, st, lo, hi, rfl, rfl, rfl, hcls⟩ := hcut
            have hst : 2 ≤ st ∧ st ≤ 4 := by unfold Cls at hcls; omega
            have HC : Hid (Cls (bt s i) st lo hi) := hcls
            obtain ⟨hst1, hst2⟩ := hst
            clear hcls
            go_wp2
            · go_ret
              exact ⟨ans_no hlt HV.out (bad2 HC.out (by omega)), rfl⟩
            · go_ret
              exact ⟨ans_no hlt HV.out (bad3 HC.out (by rw [bt_at s (i + 1) (by omega)]; assumption)), rfl⟩
            · rename lo ≤ _ ∧ _ ≤ hi => k1
              have H1 : Hid (lo ≤ bt s (i + 1) ∧ bt s (i + 1) ≤ hi) := by show lo ≤ bt s (i + 1) ∧ bt s (i + 1) ≤ hi; rw [bt_at s (i + 1) (by omega)]; exact k1
              have hfit : i + st ≤ s.size := by omega
              clear k1
              rename lo ≤ _ => k2
              clear k2
              go_loopg [8] (st - 2) (fun g n wx => wx = wc ∧ ∃ j : Nat, 2 ≤ j ∧ j + g = st ∧ n = .int .i64 j ∧ ∀ m, 2 ≤ m → m < j → 128 ≤ bt s (i + m) ∧ bt s (i + m) ≤ 191)
              case atStart => exact ⟨rfl, 2, by omega, by omega, rfl, fun m a b => by omega⟩
              case round =>
                obtain ⟨rfl, j, hj2, hj, rfl, hm⟩ := hrel
                have HM : Hid (∀ m, 2 ≤ m → m < j → 128 ≤ bt s (i + m) ∧ bt s (i + m) ≤ 191) := hm
                have HJ : Hid (j + gk = st) := hj
                have hj' : j ≤ st := by omega
                clear hm hj
                by_cases hjs : j < st
                · go_wp2
                  · go_ret
                    exact ⟨ans_no hlt HV.out (bad4 HC.out hj2 hjs (by rw [bt_at s (i + j) (by omega)]; assumption)), rfl⟩
                  · rename_i k3
                    have h3 : 128 ≤ bt s (i + j) ∧ bt s (i + j) ≤ 191 := by rw [bt_at s (i + j) (by omega)]; exact k3
                    go_roundg (gk - 1)
                    case measure => have := HJ.out; omega
                    case rel =>
                      refine ⟨rfl, j + 1, by omega, by have := HJ.out; omega, by go_num, fun m a b => ?_⟩
                      by_cases e : m = j
                      · subst e; exact h3
                      · exact HM.out m a (by omega)
                  · go_ret
                    exact ⟨ans_no hlt HV.out (bad4 HC.out hj2 hjs (by rw [bt_at s (i + j) (by omega)]; left; assumption)), rfl⟩
                · go_wp2
                  go_roundg (s.size - (i + st))
                  case measure => have := HI.out; omega
                  case rel =>
                    exact ⟨rfl, i + st, by omega, by go_num, HV.out.trans (val_step hlt (good_of HC.out hfit H1.out.1 H1.out.2 (fun m a b => HM.out m a (by omega))))⟩
            · go_ret
              exact ⟨ans_no hlt HV.out (bad3 HC.out (by rw [bt_at s (i + 1) (by omega)]; left; assumption)), rfl⟩
    · go_wp2
      go_ret
      exact ⟨⟨true, rfl, by simp only [true_iff]; exact HV.out.2 (val_end (by omega))⟩, rfl⟩
end Go.Proofs.Qxb6617264a.Utf
