/-
  The proof of 'Rows.FnBeforeVEXShiftsReadVEXSaid'. The frame is the guide's template, written by program; the walk is filled in.
-/
import Derived.Test.Qxb6617393aRows
import Derived.WalkKit
import Derived.ProofKit
import Derived.OpenShut
import Derived.ShutString
import Derived.ChangeOld
import Derived.Below
import Derived.Test.Qxb6617393aShift2a
import Derived.Test.Qxb6617393aShift2b
import Derived.Test.Qxb6617393aShift3a
import Derived.Test.Qxb6617393aShift3b
import Derived.Test.Qxb6617393aShift0
import Derived.Test.Qxb6617393aShiftn
import Derived.Test.Qxb6617393aShiftz
namespace Go.Proofs.Qxb6617393a.fnBeforeVEXShiftsReadVEX
open Go.ChangeShapes Go.WideShapes Go.ChangeAt Go.RowKit
open Go.ChangeMaps (open_string shut_string)
set_option linter.unusedVariables false

theorem own : ownKnob Try.prog.godebug = none := by kernel_rfl
theorem laidOut : laidOutB Try.prog = true := by kernel_rfl

/-- WHAT THE WALK IS TOLD OF A SLICE OF INTEGERS THAT CAME IN: it is nil; or it leads to a row of 'cap' cells, the numbers 'zs' (the first 'len' are its elements, the rest its spare room), each fitting its kind. -/
def IsRow (k : IntKind) (w : World) (a : Option Addr) (len cap : Nat) (zs : List Int) : Prop :=
  (a = none ∧ len = 0 ∧ cap = 0 ∧ zs = []) ∨
  ∃ x, a = some x ∧ len ≤ cap ∧ cap ≤ maxLen ∧ zs.length = cap ∧ (∀ i, i < zs.length → w.cell? (x.add i) = some (.int k (zs.getD i 0))) ∧ ∀ n ∈ zs, (Lit.int k n).wf = true

open Vex in
theorem walk_row (b off n cap : Nat) (pb : Int) (f : Nat → Int) (w : World) (hn : n ≤ 1048576) (h0 : 0 < n) (hp : 0 ≤ pb ∧ pb < 256) (hr : ∀ k, 0 ≤ f k ∧ f k < 256)
    (hcell : ∀ j, j < n → w.cell? ⟨b, off + j, none⟩ = some (.int .u8 (f j))) :
    Calls Try.prog 4 #[.int .u8 pb, .slice (some ⟨b, off, none⟩) n cap] w fun e w' => e = .returned (.bool true) ∧ Below w.heap.size w w' := by
  obtain ⟨m, p⟩ := pre_some f n
  cases hpb : preB pb with
  | true =>
    rcases way f n m with ⟨h5, h4⟩ | ⟨hm, h⟩ | ⟨hm, h⟩ | ⟨hm, h⟩ | ⟨hm, h⟩
    · exact shift_0 b off n cap m pb f w hn h0 hp hr hcell p hpb h5 h4
    · exact shift_2a b off n cap m pb f w hn h0 hp hr hcell p hpb hm h
    · exact shift_2b b off n cap m pb f w hn h0 hp hr hcell p hpb hm h
    · exact shift_3a b off n cap m pb f w hn h0 hp hr hcell p hpb hm h
    · exact shift_3b b off n cap m pb f w hn h0 hp hr hcell p hpb hm h
  | false =>
    by_cases h6 : pb = 196
    · exact shift_n6 b off n cap m pb f w hn h0 hp hr hcell p hpb h6
    · by_cases h7 : pb = 197
      · exact shift_n7 b off n cap m pb f w hn h0 hp hr hcell p hpb h7
      · exact shift_nx b off n cap m pb f w hn h0 hp hr hcell p hpb h6 h7

open Vex in
theorem walk_zero (a : Option Addr) (cap : Nat) (pb : Int) (w : World) (hp : 0 ≤ pb ∧ pb < 256)
    (c7 : ∀ W, Calls Try.prog 7 #[.slice a 0 cap] W fun e w' => (∃ a', e = .returned (.slice a' 0 0)) ∧ Below W.heap.size W w') :
    Calls Try.prog 4 #[.int .u8 pb, .slice a 0 cap] w fun e w' => e = .returned (.bool true) ∧ Below w.heap.size w w' := by
  cases hpb : preB pb with
  | true => exact shift_zp a cap pb w hp c7 hpb
  | false =>
    by_cases h6 : pb = 196
    · exact shift_z6 a cap pb w hp c7 hpb h6
    · by_cases h7 : pb = 197
      · exact shift_z7 a cap pb w hp c7 hpb h7
      · exact shift_zx a cap pb w hp c7 hpb h6 h7

set_option maxRecDepth 20000 in
theorem walk_big (pb : Int) (a : Option Addr) (n cap : Nat) (w : World) (hz : 1048576 < n) (hn : n ≤ maxLen) :
    Calls Try.prog 4 #[.int .u8 pb, .slice a n cap] w fun e w' => e = .returned (.bool true) ∧ Below w.heap.size w w' := by
  unfold maxLen at hn
  go_enter Try.func4, Try.ntmps4
  go_wp2
  go_ret
  exact ⟨rfl, Below.refl _ _⟩

/-! ### STEP 1: THE WALK: the Go text returns true, AND WRITES NOTHING THAT WAS THERE: 'Below w.heap.size w w'' (Derived/Below.lean: '.refl', '.alloc', '.drew', '.setCell' at a new block, '.trans'). Open each 'IsRow' by 'rcases' AHEAD of 'go_enter'; part every test ahead of the walk. -/
theorem walk (a0 : Int) (a1 : Option Addr) (len1 cap1 : Nat) (z1 : List Int) (w : World) (w0 : (Lit.int .u8 a0).wf = true) (w1 : IsRow .u8 w a1 len1 cap1 z1) :
    Calls Try.prog 4 #[.int .u8 a0, .slice a1 len1 cap1] w fun e w' => e = .returned (.bool true) ∧ Below w.heap.size w w' := by
  have hpb : 0 ≤ a0 ∧ a0 < 256 := by have := bounds_u8 w0; omega
  rcases w1 with ⟨rfl, rfl, rfl, rfl⟩ | ⟨x, rfl, hlen, hcap, hz, hcell, hwf⟩
  · exact walk_zero none 0 a0 w hpb (fun W => (Vex.clone_nil W).mono fun e w' h => ⟨⟨none, h.1⟩, by rw [h.2]; exact Below.refl _ _⟩)
  · have hb : len1 ≤ maxLen := Nat.le_trans hlen hcap
    by_cases hbig : 1048576 < len1
    · exact walk_big _ _ _ _ w hbig hb
    · by_cases h0 : len1 = 0
      · subst h0
        exact walk_zero (some x) cap1 a0 w hpb (fun W => (Vex.clone_empty x cap1 W).mono fun e w' h => ⟨⟨_, h.1⟩, h.2.1⟩)
      · have hr := range_u8 hwf
        obtain ⟨bb, off, spot⟩ := x
        have hspot : spot = none := by simpa [Addr.add] using World.cell?_spot (hcell 0 (by omega))
        subst hspot
        exact walk_row bb off len1 cap1 a0 (fun j => z1.getD j 0) w (by omega) (by omega) hpb (fun k => by have := hr k; simp only [List.getD_eq_getElem?_getD]; omega) (fun j hj => by rw [← add_plain]; exact hcell j (by omega))

/-! ### THE ROW's STEP: WRITTEN OUT: LEAVE IT -/
set_option maxRecDepth 100000 in
theorem lifted (os : Os) (started : os.Started) (H : Type) (enc : TypeId × Value → H) :
    ReturnsInHanded {} Try.checked os 4 .any (Rows.fnBeforeVEXShiftsReadVEXSpec.pre6 enc Try.prog Try.f4 Rows.fnBeforeVEXShiftsReadVEXRow.domain false) (Rows.fnBeforeVEXShiftsReadVEXSpec.post enc Try.prog Try.f4 false true false false) := by
  refine returnsInHanded_of_change (C := Try.checked) own started (by kernel_rfl) Try.func4
    (ChangeSpec.witness6 (enc := enc) (C := Try.checked) false ⟨#[], #[.int .u8 0, .slice none 0 0], []⟩ 8 (by kernel_rfl) (by kernel_rfl) (by kernel_rfl) (by kernel_rfl)) ?_
  intro W base args ds gs before hval0 hW hcnd _
  have hval : ∀ (j : Nat) t v, Try.f4.params[j]? = some t → args[j]? = some v → Value.okWide Try.prog W .any base t v := hval0
  have hW' := hW
  obtain ⟨p, q, hA0, hV, rfl, hfz, hnd⟩ := hW
  have hA : DataW.TrodAll enc Try.prog W 0 (fun _ => true) true Try.f4.params.toList args.toList ds p := hA0
  rw [Try.params4] at hA hval
  obtain ⟨v0, vs0, d0, ds0, p0, q0, hargs, rfl, rfl, h0, r0⟩ := trodAll_cons hA
  obtain ⟨v1, vs1, d1, ds1, p1, q1, rfl, rfl, rfl, h1, r1⟩ := trodAll_cons r0
  obtain ⟨rfl, rfl, rfl⟩ := trodAll_nil r1
  obtain rfl : args = #[v0, v1] := by cases args; simp_all
  obtain ⟨rfl, rfl⟩ := trodVars_none hV
  obtain ⟨a0, rfl, rfl, rfl, w0⟩ := open_int Try.underlying5 (hval 0 5 v0 rfl rfl) h0
  obtain ⟨a1, len1, cap1, rfl⟩ := okWide_slice Try.underlying22 (hval 1 22 v1 rfl rfl)
  have k1 := h1
  have lt1 : ∀ x ∈ p1, x.block < W.heap.size := by obtain ⟨m, hm⟩ := k1; exact DataW.trod_lt m _ _ _ hm
  obtain ⟨z1, w1⟩ : ∃ zs, IsRow .u8 W a1 len1 cap1 zs := by
    obtain ⟨fuel, hf⟩ := h1
    rcases open_ints Try.underlying22 Try.underlying5 (by kernel_rfl) hf with ⟨hcs, _⟩ | ⟨x, l, c, zs, hcs, _, hl, hm, hz, _, hcell, hwz⟩
    · simp [Value.cells] at hcs
      obtain ⟨rfl, rfl, rfl⟩ := hcs
      exact ⟨[], .inl ⟨rfl, rfl, rfl, rfl⟩⟩
    · simp [Value.cells] at hcs
      obtain ⟨rfl, rfl, rfl⟩ := hcs
      exact ⟨zs, .inr ⟨_, rfl, hl, hm, by simpa using hz, hcell, hwz⟩⟩
  clear hA0 hval0
  refine (walk a0 a1 len1 cap1 z1 W w0 w1).mono fun e W' ⟨he, bel⟩ => ?_
  subst he
  exact ⟨_, rfl, _, _, _, [], _, [], hW', trodAll_mk1 (shut_bool Try.underlying4 _), (trodAll_cons_mk (shut_int Try.underlying5 w0) (trodAll_cons_mk (Below.trod laidOut (by kernel_rfl) (of_decide_eq_true (by kernel_rfl)) k1 bel lt1) trodAll_mk0)), rfl, bel.frame _, fun h => by cases h⟩

theorem over : Rows.fnBeforeVEXShiftsReadVEXRow.holds Try.pinned (OpenSpec.ofChange Rows.fnBeforeVEXShiftsReadVEXSpec) :=
  OpenClaim.holds_of_wide 4 Try.f4 rfl rfl rfl rfl rfl rfl rfl ⟨rfl, rfl, rfl, rfl, rfl⟩ rfl rfl rfl rfl rfl (by kernel_rfl) Try.func4 (by kernel_rfl)
    (of_decide_eq_true (by kernel_rfl)) (by unfold Func.isWrapper; first | (rw [if_pos (by decide +kernel)]; kernel_rfl) | (rw [if_neg (by decide +kernel)]; exact ⟨rfl, rfl⟩))
    (fun os started H enc _ => lifted os started H enc)

/-- ████ THE STATEMENT ████ -/
theorem proved : Rows.FnBeforeVEXShiftsReadVEXSaid := over
end Go.Proofs.Qxb6617393a.fnBeforeVEXShiftsReadVEX
