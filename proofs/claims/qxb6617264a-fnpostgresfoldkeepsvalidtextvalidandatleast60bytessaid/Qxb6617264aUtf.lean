import Derived.Test.Qxb6617264aFold
namespace Go.Proofs.Qxb6617264a.Utf
open Go.ChangeShapes Go.WideShapes Go.ChangeAt Go.RowKit

/-! ### THE PLAIN MATHEMATICS OF A VALID TEXT -/

/-- the byte at i, 0 behind the end -/
def bt (s : ByteArray) (i : Nat) : Int := if h : i < s.size then (s[i].toNat : Int) else 0
theorem bt_at (s : ByteArray) (i : Nat) (h : i < s.size) : bt s i = (s[i].toNat : Int) := by unfold bt; rw [dif_pos h]
theorem bt_range (s : ByteArray) (i : Nat) : 0 ≤ bt s i ∧ bt s i < 256 := by
  unfold bt
  split
  · exact ⟨by omega, Fold.u8lt _⟩
  · omega

/-- at i a character of st bytes stands, whole -/
def Good (s : ByteArray) (i st : Nat) : Prop :=
  (st = 1 ∧ bt s i < 128) ∨
  (st = 2 ∧ i + 2 ≤ s.size ∧ 194 ≤ bt s i ∧ bt s i ≤ 223 ∧ 128 ≤ bt s (i + 1) ∧ bt s (i + 1) ≤ 191) ∨
  (st = 3 ∧ i + 3 ≤ s.size ∧ 128 ≤ bt s (i + 2) ∧ bt s (i + 2) ≤ 191 ∧
    ((bt s i = 224 ∧ 160 ≤ bt s (i + 1) ∧ bt s (i + 1) ≤ 191) ∨
     (225 ≤ bt s i ∧ bt s i ≤ 239 ∧ bt s i ≠ 237 ∧ 128 ≤ bt s (i + 1) ∧ bt s (i + 1) ≤ 191) ∨
     (bt s i = 237 ∧ 128 ≤ bt s (i + 1) ∧ bt s (i + 1) ≤ 159))) ∨
  (st = 4 ∧ i + 4 ≤ s.size ∧ 128 ≤ bt s (i + 2) ∧ bt s (i + 2) ≤ 191 ∧ 128 ≤ bt s (i + 3) ∧ bt s (i + 3) ≤ 191 ∧
    ((bt s i = 240 ∧ 144 ≤ bt s (i + 1) ∧ bt s (i + 1) ≤ 191) ∨
     (241 ≤ bt s i ∧ bt s i ≤ 243 ∧ 128 ≤ bt s (i + 1) ∧ bt s (i + 1) ≤ 191) ∨
     (bt s i = 244 ∧ 128 ≤ bt s (i + 1) ∧ bt s (i + 1) ≤ 143)))

theorem Good.same {s : ByteArray} {i a b : Nat} (h : Good s i a) (k : Good s i b) : a = b := by
  unfold Good at h k; omega
theorem Good.size {s : ByteArray} {i st : Nat} (h : Good s i st) : 1 ≤ st ∧ st ≤ 4 := by
  unfold Good at h; omega

/-- from i on, f characters or up to the end, the text is valid -/
def Ok (s : ByteArray) : Nat → Nat → Prop
  | 0, _ => True
  | f + 1, i => s.size ≤ i ∨ ∃ st, Good s i st ∧ Ok s f (i + st)
/-- from i on the text is valid -/
def Val (s : ByteArray) (i : Nat) : Prop := ∀ f, Ok s f i

theorem val_end {s : ByteArray} {i : Nat} (h : s.size ≤ i) : Val s i := by
  intro f
  cases f with
  | zero => trivial
  | succ f => exact Or.inl h
theorem val_step {s : ByteArray} {i st : Nat} (hi : i < s.size) (g : Good s i st) : Val s i ↔ Val s (i + st) := by
  constructor
  · intro h f
    rcases h (f + 1) with h | ⟨st', g', h⟩
    · omega
    · obtain rfl := g.same g'
      exact h
  · intro h f
    cases f with
    | zero => trivial
    | succ f => exact Or.inr ⟨st, g, h f⟩
theorem val_no {s : ByteArray} {i : Nat} (hi : i < s.size) (g : ∀ st, ¬ Good s i st) : ¬ Val s i := by
  intro h
  rcases h 1 with h | ⟨st, g', _⟩
  · omega
  · exact g st g'
theorem val_good {s : ByteArray} {i : Nat} (hi : i < s.size) (h : Val s i) : ∃ st, Good s i st ∧ Val s (i + st) := by
  rcases h 1 with h' | ⟨st, g, _⟩
  · omega
  · exact ⟨st, g, (val_step hi g).1 h⟩

theorem bt_extract (s : ByteArray) (k j : Nat) (hk : k ≤ s.size) (hj : j < k) : bt (s.extract 0 k) j = bt s j := by
  have h1 : j < (s.extract 0 k).size := by rw [ByteArray.size_extract]; omega
  rw [bt_at _ _ h1, bt_at s j (by omega)]
  simp [ByteArray.getElem_extract]
theorem good_extract {s : ByteArray} {i st k : Nat} (hk : k ≤ s.size) (g : Good s i st) (h : i + st ≤ k) : Good (s.extract 0 k) i st := by
  have hs : (s.extract 0 k).size = k := by rw [ByteArray.size_extract]; omega
  have hz := g.size
  have h0 := bt_extract s k i hk (by omega)
  unfold Good at g ⊢
  rw [hs, h0]
  rcases g with ⟨rfl, g⟩ | ⟨rfl, _, g⟩ | ⟨rfl, _, g⟩ | ⟨rfl, _, g⟩
  · exact Or.inl ⟨rfl, g⟩
  · rw [bt_extract s k (i + 1) hk (by omega)]
    exact Or.inr (Or.inl ⟨rfl, h, g⟩)
  · rw [bt_extract s k (i + 1) hk (by omega), bt_extract s k (i + 2) hk (by omega)]
    exact Or.inr (Or.inr (Or.inl ⟨rfl, h, g⟩))
  · rw [bt_extract s k (i + 1) hk (by omega), bt_extract s k (i + 2) hk (by omega), bt_extract s k (i + 3) hk (by omega)]
    exact Or.inr (Or.inr (Or.inr ⟨rfl, h, g⟩))

/-- the byte that starts a character is a start; those behind it are not -/
theorem rs_bt (s : ByteArray) (i : Nat) (h : i < s.size) : Fold.rs s i = (bt s i / 64 != 2) := by
  rw [Fold.rs_at s i h, bt_at s i h]; rfl
theorem good_start {s : ByteArray} {i st : Nat} (hi : i < s.size) (g : Good s i st) : Fold.rs s i = true := by
  rw [rs_bt s i hi]
  have := bt_range s i
  unfold Good at g
  simp only [bne_iff_ne, ne_eq]
  omega
theorem good_rest {s : ByteArray} {i st m : Nat} (g : Good s i st) (h1 : i < m) (h2 : m < i + st) (h3 : m < s.size) : Fold.rs s m = false := by
  rw [rs_bt s m h3]
  unfold Good at g
  have e : m = i + 1 ∨ m = i + 2 ∨ m = i + 3 := by omega
  rcases e with rfl | rfl | rfl
  all_goals
    simp only [bne_eq_false_iff_eq]
    omega

/-- where a valid text is cut: at a character's start, 60 .. 63; what stays is valid -/
theorem find (s : ByteArray) (h6 : 64 ≤ s.size) : ∀ d i, 63 - i = d → i ≤ 63 → Val s i →
    ∃ p st, i ≤ p ∧ p ≤ 63 ∧ 63 < p + st ∧ Good s p st ∧ Val (s.extract 0 p) i := by
  intro d
  induction d using Nat.strongRecOn with
  | ind d ih =>
    intro i hd hi hv
    obtain ⟨st, g, hv'⟩ := val_good (by omega) hv
    have hz := g.size
    by_cases hb : 63 < i + st
    · exact ⟨i, st, by omega, hi, hb, g, val_end (by rw [ByteArray.size_extract]; omega)⟩
    · obtain ⟨p, st', h1, h2, h3, g', hv''⟩ := ih (63 - (i + st)) (by omega) (i + st) rfl (by omega) hv'
      refine ⟨p, st', by omega, h2, h3, g', ?_⟩
      exact (val_step (by rw [ByteArray.size_extract]; omega) (good_extract (by omega) g h1)).2 hv''

theorem cut_eq (s : ByteArray) (p : Nat) (hs : Fold.rs s p = true) : ∀ n, p ≤ n → (∀ m, p < m → m ≤ n → Fold.rs s m = false) → Fold.cutAt s n = p := by
  intro n
  induction n with
  | zero => intro h _; simp [Fold.cutAt]; omega
  | succ n ih =>
    intro h hg
    by_cases e : p = n + 1
    · subst e; exact Fold.cut_yes s _ hs
    · rw [Fold.cut_no s (n + 1) (by omega) (hg (n + 1) (by omega) (by omega))]
      exact ih (by omega) (fun m h1 h2 => hg m h1 (by omega))

/-- THE PLAIN LAW -/
theorem fold_valid (s : ByteArray) (h6 : 64 ≤ s.size) (hv : Val s 0) :
    60 ≤ Fold.cut63 s ∧ Fold.cut63 s ≤ 63 ∧ Val (s.extract 0 (Fold.cut63 s)) 0 := by
  obtain ⟨p, st, _, h2, h3, g, hv'⟩ := find s h6 63 0 rfl (by omega) hv
  have hz := g.size
  have e : Fold.cut63 s = p := cut_eq s p (good_start (by omega) g) 63 h2 (fun m h1 h2 => good_rest g h1 (by omega) (by omega))
  rw [e]
  exact ⟨by omega, h2, hv'⟩
end Go.Proofs.Qxb6617264a.Utf
