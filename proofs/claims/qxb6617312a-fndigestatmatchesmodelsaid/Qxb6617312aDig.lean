import Derived.Test.Qxb6617312aHex
namespace Go.Proofs.Qxb6617312a.Dig
open Go.ChangeShapes Go.WideShapes Go.ChangeAt Go.RowKit
open Hex (hexB)

/-! ### THE PLAIN MATHEMATICS OF A DIGEST's PLACE -/
def alnB (c : Int) : Bool := decide ((97 ≤ c ∧ c ≤ 122) ∨ (65 ≤ c ∧ c ≤ 90) ∨ (48 ≤ c ∧ c ≤ 57))
theorem alnB_iff (c : Int) : alnB c = true ↔ ((97 ≤ c ∧ c ≤ 122) ∨ (65 ≤ c ∧ c ≤ 90) ∨ (48 ≤ c ∧ c ≤ 57)) := by simp [alnB]
theorem alnB_no {c : Int} (h : ¬ ((97 ≤ c ∧ c ≤ 122) ∨ (65 ≤ c ∧ c ≤ 90) ∨ (48 ≤ c ∧ c ≤ 57))) : alnB c = false := by unfold alnB; exact decide_eq_false h
/-- a byte of a tag; 'first': her first byte -/
def tagB (c : Int) (first : Bool) : Bool := alnB c || decide (c = 95) || (!first && (decide (c = 46) || decide (c = 45)))
theorem tagB_at (first : Bool) : tagB 64 first = false := by cases first <;> decide

/-- g's first len bytes are empty, or a colon and a tag -/
def Mid (g : Nat → Int) (len : Nat) : Prop :=
  len = 0 ∨ (g 0 = 58 ∧ 2 ≤ len ∧ len ≤ 129 ∧ ∀ k, 1 ≤ k → k < len → tagB (g k) (decide (k = 1)) = true)
/-- the mark stands at s -/
def Mark (f : Nat → Int) (s : Nat) : Prop :=
  f s = 64 ∧ f (s + 1) = 115 ∧ f (s + 2) = 104 ∧ f (s + 3) = 97 ∧ f (s + 4) = 50 ∧ f (s + 5) = 53 ∧ f (s + 6) = 54 ∧ f (s + 7) = 58
/-- a digest begins at r; the repository ends at p -/
def Ok (f : Nat → Int) (n p r : Nat) : Prop :=
  p + 8 ≤ r ∧ r ≤ p + 137 ∧ r + 64 ≤ n ∧ Mid (fun j => f (p + j)) (r - 8 - p) ∧ Mark f (r - 8) ∧ Hex.allB (fun j => hexB (f (r + j))) 64 = true ∧ ¬ (r + 64 < n ∧ alnB (f (r + 64)) = true)
/-- THE ANSWER -/
def Res (f : Nat → Int) (n p : Nat) (v : Int) : Prop := (∃ r : Nat, v = r ∧ Ok f n p r) ∨ (v = -1 ∧ ∀ r, ¬ Ok f n p r)

theorem not_less {f : Nat → Int} {n p a b : Nat} (ha : Ok f n p a) (hb : Ok f n p b) : ¬ a < b := by
  intro h
  obtain ⟨a1, _, _, _, ma, _⟩ := ha
  obtain ⟨b1, _, _, mb, _⟩ := hb
  rcases mb with mb | ⟨m0, _, _, mk⟩
  · omega
  · have m0' : f p = 58 := m0
    have e64 : f (a - 8) = 64 := ma.1
    by_cases e : a - 8 = p
    · rw [e] at e64; omega
    · have t := mk (a - 8 - p) (by omega) (by omega)
      have e2 : p + (a - 8 - p) = a - 8 := by omega
      simp only [e2, e64] at t
      rw [tagB_at] at t
      exact absurd t (by simp)
theorem Res.same {f : Nat → Int} {n p : Nat} {u v : Int} (hu : Res f n p u) (hv : Res f n p v) : u = v := by
  rcases hu with ⟨r, rfl, hr⟩ | ⟨rfl, hu⟩
  · rcases hv with ⟨q, rfl, hq⟩ | ⟨rfl, hv⟩
    · have h1 := not_less hr hq
      have h2 := not_less hq hr
      omega
    · exact absurd hr (hv r)
  · rcases hv with ⟨q, rfl, hq⟩ | ⟨rfl, hv⟩
    · exact absurd hq (hu q)
    · rfl

/-- no colon behind the repository: the digest's place, if any, is p + 8 -/
theorem only_plain {f : Nat → Int} {n p : Nat} (h : ¬ (p < n ∧ f p = 58)) {r : Nat} (hr : Ok f n p r) : r = p + 8 := by
  obtain ⟨a1, _, a3, m, _⟩ := hr
  rcases m with m | ⟨m0, m1, _, _⟩
  · omega
  · have m0' : f p = 58 := m0
    exact absurd ⟨by omega, m0'⟩ h
/-- a colon, and a tag that was read as far as it goes, to j -/
theorem only_tag {f : Nat → Int} {n p j : Nat} (hp : f p = 58) (hj : p + 1 ≤ j)
    (ht : ∀ k, p + 1 ≤ k → k < j → tagB (f k) (decide (k = p + 1)) = true)
    (hstop : ¬ (j < n ∧ j < p + 129 ∧ tagB (f j) (decide (j = p + 1)) = true)) {r : Nat} (hr : Ok f n p r) : r = j + 8 ∧ p + 1 < j := by
  obtain ⟨a1, a2, a3, m, mk, _⟩ := hr
  have e64 : f (r - 8) = 64 := mk.1
  rcases m with m | ⟨_, m1, m2, mt⟩
  · have : r - 8 = p := by omega
    rw [this] at e64; omega
  · by_cases h1 : r - 8 < j
    · have t := ht (r - 8) (by omega) h1
      rw [e64, tagB_at] at t
      exact absurd t (by simp)
    · by_cases h2 : j < r - 8
      · have t := mt (j - p) (by omega) (by omega)
        have e2 : p + (j - p) = j := by omega
        have e3 : decide (j - p = 1) = decide (j = p + 1) := by
          by_cases e : j = p + 1
          · rw [decide_eq_true e, decide_eq_true (by omega)]
          · rw [decide_eq_false e, decide_eq_false (by omega)]
        simp only [e2, e3] at t
        exact absurd ⟨by omega, by omega, t⟩ hstop
      · omega
/-- what stands at j: whole, or not -/
def End (f : Nat → Int) (n j : Nat) : Prop :=
  j + 72 ≤ n ∧ Mark f j ∧ Hex.allB (fun k => hexB (f (j + 8 + k))) 64 = true ∧ ¬ (j + 72 < n ∧ alnB (f (j + 72)) = true)
theorem res_yes {f : Nat → Int} {n p j : Nat} (h : End f n j) (hj : p ≤ j) (hj2 : j ≤ p + 129) (m : Mid (fun k => f (p + k)) (j - p)) : Res f n p ((j : Int) + 8) := by
  obtain ⟨h1, h2, h3, h4⟩ := h
  have e : j + 8 - 8 = j := by omega
  refine Or.inl ⟨j + 8, by omega, by omega, by omega, by omega, ?_, ?_, h3, h4⟩
  · rw [e]; exact m
  · rw [e]; exact h2
theorem res_no {f : Nat → Int} {n p j : Nat} (h : ¬ End f n j) (only : ∀ r, Ok f n p r → r = j + 8) : Res f n p (-1) := by
  refine Or.inr ⟨rfl, fun r hr => h ?_⟩
  obtain rfl := only r hr
  obtain ⟨_, _, a3, _, mk, hx, ha⟩ := hr
  have e : j + 8 - 8 = j := by omega
  rw [e] at mk
  exact ⟨by omega, mk, hx, ha⟩
/-- the reading of a tag gives the middle -/
theorem mid_of {f : Nat → Int} {p j : Nat} (hp : f p = 58) (hj : p + 1 < j) (hj2 : j ≤ p + 129)
    (ht : ∀ k, p + 1 ≤ k → k < j → tagB (f k) (decide (k = p + 1)) = true) : Mid (fun k => f (p + k)) (j - p) := by
  refine Or.inr ⟨hp, by omega, by omega, fun k h1 h2 => ?_⟩
  have t := ht (p + k) (by omega) (by omega)
  have e3 : decide (p + k = p + 1) = decide (k = 1) := by
    by_cases e : k = 1
    · rw [decide_eq_true e, decide_eq_true (by omega)]
    · rw [decide_eq_false e, decide_eq_false (by omega)]
  rw [e3] at t
  exact t

/-- a Bool that answers whether P -/
def Ans (P : Prop) (e : Ending) : Prop := ∃ b : Bool, e = .returned (.bool b) ∧ (b = true ↔ P)
theorem ans_yes {P : Prop} (h : P) : Ans P (.returned (.bool true)) := ⟨true, rfl, by simp [h]⟩
theorem ans_no {P : Prop} (h : ¬ P) : Ans P (.returned (.bool false)) := ⟨false, rfl, by simp [h]⟩

/-! ### THE SMALL WALKS -/
theorem aln_ways (c : Int) : (97 ≤ c ∧ c ≤ 122) ∨ (65 ≤ c ∧ c ≤ 90) ∨ (48 ≤ c ∧ c ≤ 57) ∨ c < 48 ∨ (57 < c ∧ c < 65 ∧ decide (c ≤ 57) = false) ∨ (90 < c ∧ c < 97 ∧ decide (c ≤ 90) = false ∧ decide (c ≤ 57) = false) ∨ (122 < c ∧ decide (c ≤ 122) = false ∧ decide (c ≤ 90) = false ∧ decide (c ≤ 57) = false) := by
  simp only [decide_eq_false_iff_not]; omega
set_option maxRecDepth 20000 in
theorem zzAlnum_any (c : Int) (w : World) :
    Calls Try.prog 14 #[.int .u8 c] w fun e w' => e = .returned (.bool (alnB c)) ∧ w' = w := by
  rcases aln_ways c with ⟨c1, c2⟩ | ⟨c1, c2⟩ | ⟨c1, c2⟩ | c1 | ⟨c1, c2, d1⟩ | ⟨c1, c2, d1, d2⟩ | ⟨c1, d1, d2, d3⟩
  · have H : Hid (alnB c = true) := (alnB_iff c).2 (by omega)
    go_enter Try.func14, Try.ntmps14
    go_wp2
    go_ret
    exact ⟨Hex.ret_bool (by rw [H.out]), rfl⟩
  · have H : Hid (alnB c = true) := (alnB_iff c).2 (by omega)
    go_enter Try.func14, Try.ntmps14
    go_wp2
    go_ret
    exact ⟨Hex.ret_bool (by rw [H.out]), rfl⟩
  · have H : Hid (alnB c = true) := (alnB_iff c).2 (by omega)
    go_enter Try.func14, Try.ntmps14
    go_wp2
    go_ret
    exact ⟨Hex.ret_bool (by rw [H.out]), rfl⟩
  all_goals
    have H : Hid (alnB c = false) := alnB_no (by omega)
    go_enter Try.func14, Try.ntmps14
    go_wp2
    go_ret
    exact ⟨Hex.ret_bool (by rw [H.out]), rfl⟩
set_option maxRecDepth 20000 in
theorem alnum_any (c : Int) (w : World) :
    Calls Try.prog 19 #[.int .u8 c] w fun e w' => e = .returned (.bool (alnB c)) ∧ w' = w := by
  rcases aln_ways c with ⟨c1, c2⟩ | ⟨c1, c2⟩ | ⟨c1, c2⟩ | c1 | ⟨c1, c2, d1⟩ | ⟨c1, c2, d1, d2⟩ | ⟨c1, d1, d2, d3⟩
  · have H : Hid (alnB c = true) := (alnB_iff c).2 (by omega)
    go_enter Try.func19, Try.ntmps19
    go_wp2
    go_ret
    exact ⟨Hex.ret_bool (by rw [H.out]), rfl⟩
  · have H : Hid (alnB c = true) := (alnB_iff c).2 (by omega)
    go_enter Try.func19, Try.ntmps19
    go_wp2
    go_ret
    exact ⟨Hex.ret_bool (by rw [H.out]), rfl⟩
  · have H : Hid (alnB c = true) := (alnB_iff c).2 (by omega)
    go_enter Try.func19, Try.ntmps19
    go_wp2
    go_ret
    exact ⟨Hex.ret_bool (by rw [H.out]), rfl⟩
  all_goals
    have H : Hid (alnB c = false) := alnB_no (by omega)
    go_enter Try.func19, Try.ntmps19
    go_wp2
    go_ret
    exact ⟨Hex.ret_bool (by rw [H.out]), rfl⟩

theorem tag_ways (c : Int) (first : Bool) : (alnB c = true ∧ tagB c first = true) ∨ (alnB c = false ∧ c = 95 ∧ tagB c first = true) ∨
    (alnB c = false ∧ (c == 95) = false ∧ first = true ∧ tagB c first = false) ∨
    (alnB c = false ∧ (c == 95) = false ∧ first = false ∧ c = 46 ∧ tagB c first = true) ∨
    (alnB c = false ∧ (c == 95) = false ∧ first = false ∧ (c == 46) = false ∧ c = 45 ∧ tagB c first = true) ∨
    (alnB c = false ∧ (c == 95) = false ∧ first = false ∧ (c == 46) = false ∧ (c == 45) = false ∧ tagB c first = false) := by
  unfold tagB
  cases h : alnB c
  · by_cases h1 : c = 95
    · simp [h1]
    · cases first
      · by_cases h2 : c = 46
        · simp [h2]
        · by_cases h3 : c = 45
          · simp [h3]
          · simp [h1, h2, h3]
      · simp [h1]
  · simp
theorem isTag_any (c : Int) (first : Bool) (w : World) :
    Calls Try.prog 17 #[.int .u8 c, .bool first] w fun e w' => e = .returned (.bool (tagB c first)) ∧ w' = w := by
  rcases tag_ways c first with ⟨a1, h⟩ | ⟨a1, rfl, h⟩ | ⟨a1, a2, rfl, h⟩ | ⟨a1, a2, rfl, rfl, h⟩ | ⟨a1, a2, rfl, a3, rfl, h⟩ | ⟨a1, a2, rfl, a3, a4, h⟩
  all_goals
    have H : Hid _ := h
    clear h
    go_enter Try.func17, Try.ntmps17
    go_wp2_with (go_at_call 19; refine (alnum_any _ _).mono ?_; rintro e w' ⟨rfl, rfl⟩)
    go_ret
    exact ⟨Hex.ret_bool (by rw [H.out]), rfl⟩
end Go.Proofs.Qxb6617312a.Dig
