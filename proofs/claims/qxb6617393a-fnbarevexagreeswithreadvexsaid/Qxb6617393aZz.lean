import Derived.Test.Qxb6617393aRead
namespace Go.Proofs.Qxb6617393a.Vex
open Go.ChangeShapes Go.WideShapes Go.ChangeAt Go.RowKit

theorem bcell {W w1 : World} (hb : Below W.heap.size W w1) : (∀ b o, b < W.heap.size → w1.cell? ⟨b, o, none⟩ = W.cell? ⟨b, o, none⟩) ∧ (∀ b o, b < W.heap.size → w1.frozen? ⟨b, o, none⟩ = W.frozen? ⟨b, o, none⟩) :=
  ⟨fun b o h => hb.cell (p := ⟨b, o, none⟩) h, fun b o h => hb.frozen (p := ⟨b, o, none⟩) h⟩

set_option maxHeartbeats 1000000 in
set_option maxRecDepth 20000 in
theorem zz_of (a : Option Addr) (m n cap : Nat) (sz op r x bb ww l om pp v : Int) (ok : Bool) (w : World)
    (c14 : ∀ W, Below w.heap.size w W → Calls Try.prog 14 #[.slice a n cap] W fun e w' => e = .returned (.tuple #[.agg #[.slice a m cap, .int .i64 sz, .int .u8 op, .int .u8 r, .int .u8 x, .int .u8 bb, .int .u8 ww, .int .u8 l, .int .u8 om, .int .u8 pp, .int .u8 v], .bool ok]) ∧ Below W.heap.size W w') :
    Calls Try.prog 8 #[.slice a n cap] w fun e w' => e = .returned (.tuple #[.agg #[.slice a m cap, .int .i64 sz, .int .u8 op, .int .u8 r, .int .u8 x, .int .u8 bb, .int .u8 ww, .int .u8 l, .int .u8 om, .int .u8 pp, .int .u8 v], .bool ok]) ∧ Below w.heap.size w w' := by
  go_enter Try.func8, Try.ntmps8
  go_wp2_with (go_at_call 14; go_must (refine (c14 _ ((Below.refl _ _).alloc (Nat.le_refl _) _)).mono ?_); rintro e w1 ⟨rfl, hb⟩; obtain ⟨hc, hf⟩ := bcell hb; have hz : w.heap.size < w1.heap.size := (by have := hb.size; simp at this; omega))
  refine bodyPost_ret (v := .tuple #[.agg #[.slice a m cap, .int .i64 sz, .int .u8 op, .int .u8 r, .int .u8 x, .int .u8 bb, .int .u8 ww, .int .u8 l, .int .u8 om, .int .u8 pp, .int .u8 v], .bool ok]) (by simp [results, Try.results8, go_sem, hc, hz]) rfl ⟨rfl, ?_⟩
  have h0 : Below w.heap.size w w1 := ((Below.refl _ _).alloc (Nat.le_refl _) _).trans (hb.mono (by simp))
  refine Below.alloc ?_ (by simp; omega) _
  iterate 11 (refine Below.setCell ?_ (by exact Nat.le_refl _) _)
  exact h0

/-- a slice of n bytes f over a row of its own -/
structure Src (b n : Nat) (f : Nat → Int) (w : World) : Prop where
  le : n ≤ 1048577
  lt : b < w.heap.size
  byte : ∀ k, 0 ≤ f k ∧ f k < 256
  cell : ∀ j, j < n → w.cell? ⟨b, j, none⟩ = some (.int .u8 (f j))
theorem Src.later {b n : Nat} {f : Nat → Int} {w W : World} (h : Src b n f w) (hb : Below w.heap.size w W) : Src b n f W :=
  ⟨h.le, Nat.lt_of_lt_of_le h.lt hb.size, h.byte, fun j hj => cell_later hb (h.cell j hj)⟩
theorem Src.draws {b n : Nat} {f : Nat → Int} {w : World} (h : Src b n f w) (k : Nat) : Src b n f (w.drewN k) := ⟨h.le, h.lt, h.byte, h.cell⟩

/-- m: how many prefixes stand at the front -/
structure Pre (f : Nat → Int) (n m : Nat) : Prop where
  le : m ≤ n
  all : ∀ j, j < m → preB (f j) = true
  stop : m < n → preB (f m) = false
theorem pre_from (f : Nat → Int) (n : Nat) : ∀ d k, k + d = n → (∀ j, j < k → preB (f j) = true) → ∃ m, Pre f n m := by
  intro d
  induction d with
  | zero => intro k hk ha; exact ⟨k, by omega, ha, fun h => by omega⟩
  | succ d ih =>
    intro k hk ha
    cases h : preB (f k) with
    | false => exact ⟨k, by omega, ha, fun _ => h⟩
    | true =>
      refine ih (k + 1) (by omega) (fun j hj => ?_)
      by_cases e : j = k
      · subst e; exact h
      · exact ha j (by omega)
theorem pre_some (f : Nat → Int) (n : Nat) : ∃ m, Pre f n m := pre_from f n n 0 (by omega) (fun j hj => by omega)

theorem way (f : Nat → Int) (n m : Nat) : (¬ (m + 2 ≤ n ∧ f m = 197) ∧ ¬ (m + 3 ≤ n ∧ f m = 196)) ∨ (m + 2 < n ∧ f m = 197) ∨ (m + 2 = n ∧ f m = 197) ∨ (m + 3 < n ∧ f m = 196) ∨ (m + 3 = n ∧ f m = 196) := by omega

/-! ### ZZreadVEX, way by way -/
theorem zz_0 (b n m : Nat) (f : Nat → Int) (w : World) (s : Src b n f w) (p : Pre f n m) (h5 : ¬ (m + 2 ≤ n ∧ f m = 197)) (h4 : ¬ (m + 3 ≤ n ∧ f m = 196)) :
    Calls Try.prog 8 #[.slice (some ⟨b, 0, none⟩) n n] w fun e w' => e = .returned (.tuple #[.agg #[.slice (some ⟨b, 0, none⟩) m n, .int .i64 0, .int .u8 0, .int .u8 0, .int .u8 0, .int .u8 0, .int .u8 0, .int .u8 0, .int .u8 0, .int .u8 0, .int .u8 0], .bool false]) ∧ Below w.heap.size w w' :=
  zz_of _ _ _ _ _ _ _ _ _ _ _ _ _ _ _ w (fun W hW => let t := s.later hW; read_0 b n m f W t.le t.lt t.byte t.cell p.all p.le p.stop h5 h4)
theorem zz_2a (b n m : Nat) (f : Nat → Int) (w : World) (s : Src b n f w) (p : Pre f n m) (hm : m + 2 < n) (h5 : f m = 197) :
    Calls Try.prog 8 #[.slice (some ⟨b, 0, none⟩) n n] w fun e w' => e = .returned (.tuple #[.agg #[.slice (some ⟨b, 0, none⟩) m n, .int .i64 ((m : Int) + 2), .int .u8 (f (m + 2)), .int .u8 (vr (f (m + 1))), .int .u8 0, .int .u8 0, .int .u8 0, .int .u8 (vl (f (m + 1))), .int .u8 1, .int .u8 (vp (f (m + 1))), .int .u8 (vv (f (m + 1)))], .bool true]) ∧ Below w.heap.size w w' :=
  zz_of _ _ _ _ _ _ _ _ _ _ _ _ _ _ _ w (fun W hW => let t := s.later hW; read_2a b n m f W t.le t.lt t.byte t.cell p.all hm h5)
theorem zz_2b (b n m : Nat) (f : Nat → Int) (w : World) (s : Src b n f w) (p : Pre f n m) (hm : m + 2 = n) (h5 : f m = 197) :
    Calls Try.prog 8 #[.slice (some ⟨b, 0, none⟩) n n] w fun e w' => e = .returned (.tuple #[.agg #[.slice (some ⟨b, 0, none⟩) m n, .int .i64 ((m : Int) + 2), .int .u8 0, .int .u8 (vr (f (m + 1))), .int .u8 0, .int .u8 0, .int .u8 0, .int .u8 (vl (f (m + 1))), .int .u8 1, .int .u8 (vp (f (m + 1))), .int .u8 (vv (f (m + 1)))], .bool false]) ∧ Below w.heap.size w w' :=
  zz_of _ _ _ _ _ _ _ _ _ _ _ _ _ _ _ w (fun W hW => let t := s.later hW; read_2b b n m f W t.le t.lt t.byte t.cell p.all hm h5)
theorem zz_3a (b n m : Nat) (f : Nat → Int) (w : World) (s : Src b n f w) (p : Pre f n m) (hm : m + 3 < n) (h4 : f m = 196) :
    Calls Try.prog 8 #[.slice (some ⟨b, 0, none⟩) n n] w fun e w' => e = .returned (.tuple #[.agg #[.slice (some ⟨b, 0, none⟩) m n, .int .i64 ((m : Int) + 3), .int .u8 (f (m + 3)), .int .u8 (vr (f (m + 1))), .int .u8 (vx (f (m + 1))), .int .u8 (vb (f (m + 1))), .int .u8 (vw (f (m + 2))), .int .u8 (vl (f (m + 2))), .int .u8 (vo (f (m + 1))), .int .u8 (vp (f (m + 2))), .int .u8 (vv (f (m + 2)))], .bool true]) ∧ Below w.heap.size w w' :=
  zz_of _ _ _ _ _ _ _ _ _ _ _ _ _ _ _ w (fun W hW => let t := s.later hW; read_3a b n m f W t.le t.lt t.byte t.cell p.all hm h4)
theorem zz_3b (b n m : Nat) (f : Nat → Int) (w : World) (s : Src b n f w) (p : Pre f n m) (hm : m + 3 = n) (h4 : f m = 196) :
    Calls Try.prog 8 #[.slice (some ⟨b, 0, none⟩) n n] w fun e w' => e = .returned (.tuple #[.agg #[.slice (some ⟨b, 0, none⟩) m n, .int .i64 ((m : Int) + 3), .int .u8 0, .int .u8 (vr (f (m + 1))), .int .u8 (vx (f (m + 1))), .int .u8 (vb (f (m + 1))), .int .u8 (vw (f (m + 2))), .int .u8 (vl (f (m + 2))), .int .u8 (vo (f (m + 1))), .int .u8 (vp (f (m + 2))), .int .u8 (vv (f (m + 2)))], .bool false]) ∧ Below w.heap.size w w' :=
  zz_of _ _ _ _ _ _ _ _ _ _ _ _ _ _ _ w (fun W hW => let t := s.later hW; read_3b b n m f W t.le t.lt t.byte t.cell p.all hm h4)
theorem zz_empty (a : Option Addr) (cap : Nat) (w : World) :
    Calls Try.prog 8 #[.slice a 0 cap] w fun e w' => e = .returned (.tuple #[.agg #[.slice a 0 cap, .int .i64 0, .int .u8 0, .int .u8 0, .int .u8 0, .int .u8 0, .int .u8 0, .int .u8 0, .int .u8 0, .int .u8 0, .int .u8 0], .bool false]) ∧ Below w.heap.size w w' :=
  zz_of _ _ _ _ _ _ _ _ _ _ _ _ _ _ _ w (fun W _ => read_empty a cap W)
/-- whatever is read -/
theorem zz_some (b n : Nat) (f : Nat → Int) (w : World) (s : Src b n f w) : ∃ (m : Nat) (sz op r x bb ww l om pp v : Int) (ok : Bool),
    Calls Try.prog 8 #[.slice (some ⟨b, 0, none⟩) n n] w fun e w' => e = .returned (.tuple #[.agg #[.slice (some ⟨b, 0, none⟩) m n, .int .i64 sz, .int .u8 op, .int .u8 r, .int .u8 x, .int .u8 bb, .int .u8 ww, .int .u8 l, .int .u8 om, .int .u8 pp, .int .u8 v], .bool ok]) ∧ Below w.heap.size w w' := by
  obtain ⟨m, p⟩ := pre_some f n
  rcases way f n m with ⟨h5, h4⟩ | ⟨hm, h⟩ | ⟨hm, h⟩ | ⟨hm, h⟩ | ⟨hm, h⟩
  · exact ⟨_, _, _, _, _, _, _, _, _, _, _, _, zz_0 b n m f w s p h5 h4⟩
  · exact ⟨_, _, _, _, _, _, _, _, _, _, _, _, zz_2a b n m f w s p hm h⟩
  · exact ⟨_, _, _, _, _, _, _, _, _, _, _, _, zz_2b b n m f w s p hm h⟩
  · exact ⟨_, _, _, _, _, _, _, _, _, _, _, _, zz_3a b n m f w s p hm h⟩
  · exact ⟨_, _, _, _, _, _, _, _, _, _, _, _, zz_3b b n m f w s p hm h⟩
end Go.Proofs.Qxb6617393a.Vex
