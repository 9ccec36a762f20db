/-
  The proof of 'Rows.FnBareVEXAgreesWithReadVEXSaid'. The frame is the guide's template, written by program; the walk is filled in.
-/
import Derived.Test.Qxb6617393aRows
import Derived.WalkKit
import Derived.ProofKit
import Derived.OpenShut
import Derived.ShutString
import Derived.ChangeOld
import Derived.Below
import Derived.Test.Qxb6617393aBareWalk
namespace Go.Proofs.Qxb6617393a.fnBareVEXAgreesWithReadVEX
open Go.ChangeShapes Go.WideShapes Go.ChangeAt Go.RowKit
open Go.ChangeMaps (open_string shut_string)
set_option linter.unusedVariables false

theorem own : ownKnob Try.prog.godebug = none := by kernel_rfl
theorem laidOut : laidOutB Try.prog = true := by kernel_rfl

/-- WHAT THE WALK IS TOLD OF A SLICE OF INTEGERS THAT CAME IN: it is nil; or it leads to a row of 'cap' cells, the numbers 'zs' (the first 'len' are its elements, the rest its spare room), each fitting its kind. -/
def IsRow (k : IntKind) (w : World) (a : Option Addr) (len cap : Nat) (zs : List Int) : Prop :=
  (a = none ∧ len = 0 ∧ cap = 0 ∧ zs = []) ∨
  ∃ x, a = some x ∧ len ≤ cap ∧ cap ≤ maxLen ∧ zs.length = cap ∧ (∀ i, i < zs.length → w.cell? (x.add i) = some (.int k (zs.getD i 0))) ∧ ∀ n ∈ zs, (Lit.int k n).wf = true

open Vex in
theorem walk_row (b off n cap : Nat) (f : Nat → Int) (w : World) (hn : n ≤ 1048576) (h0 : 0 < n) (hr : ∀ k, 0 ≤ f k ∧ f k < 256)
    (hcell : ∀ j, j < n → w.cell? ⟨b, off + j, none⟩ = some (.int .u8 (f j))) :
    Calls Try.prog 5 #[.slice (some ⟨b, off, none⟩) n cap] w fun e w' => e = .returned (.bool true) ∧ Below w.heap.size w w' := by
  obtain ⟨m, p⟩ := pre_some f n
  by_cases hm : 0 < m
  · exact bare_A b off n cap m f w hn h0 hr hcell p hm
  · obtain rfl : m = 0 := by omega
    by_cases e1 : f 0 = 197
    · by_cases h1 : n = 2
      · exact bare_2y b off n cap f w hn h0 hr hcell p e1 h1
      · by_cases h2 : n < 2
        · exact bare_2z b off n cap f w hn h0 hr hcell p e1 h2
        · exact bare_2n b off n cap f w hn h0 hr hcell p e1 (by omega)
    · by_cases e2 : f 0 = 196
      · by_cases h1 : n = 3
        · exact bare_3y b off n cap f w hn h0 hr hcell p e2 h1
        · by_cases h2 : n < 3
          · exact bare_3z b off n cap f w hn h0 hr hcell p e2 h2
          · exact bare_3n b off n cap f w hn h0 hr hcell p e2 (by omega)
      · by_cases e3 : f 0 = 98
        · by_cases h1 : n = 4
          · exact bare_9y b off n cap f w hn h0 hr hcell p e3 h1
          · exact bare_9n b off n cap f w hn h0 hr hcell p e3 h1
        · exact bare_E b off n cap f w hn h0 hr hcell p e1 e2 e3

set_option maxRecDepth 20000 in
theorem walk_zero (a : Option Addr) (cap : Nat) (w : World)
    (c7 : ∀ W, Calls Try.prog 7 #[.slice a 0 cap] W fun e w' => (∃ a', e = .returned (.slice a' 0 0)) ∧ Below W.heap.size W w') :
    Calls Try.prog 5 #[.slice a 0 cap] w fun e w' => e = .returned (.bool true) ∧ Below w.heap.size w w' := by
  go_enter Try.func5, Try.ntmps5
  go_wp2_with (first
    | (go_at_call 12; go_must (refine (Vex.bytes12 _ _ _ _ (by omega)).mono ?_); rintro e w' ⟨rfl, rfl⟩)
    | (go_at_call 7; go_must (refine (c7 _).mono ?_); rintro e w1 ⟨⟨a', rfl⟩, hb1⟩)
    | (go_at_call 13; go_must (refine (Vex.zzBare_of _ _ _ (Vex.bare_empty _ _ _)).mono ?_); rintro e w' ⟨rfl, rfl⟩)
    | (go_at_call 8; go_must (refine (Vex.zz_empty _ _ _).mono ?_); rintro e w2 ⟨rfl, hb2⟩))
  go_ret
  have hbb := hb1.trans (hb2.mono hb1.size)
  exact ⟨rfl, hbb.alloc hbb.size _⟩

set_option maxRecDepth 20000 in
theorem walk_big (a : Option Addr) (n cap : Nat) (w : World) (hz : 1048576 < n) (hn : n ≤ maxLen) :
    Calls Try.prog 5 #[.slice a n cap] w fun e w' => e = .returned (.bool true) ∧ Below w.heap.size w w' := by
  unfold maxLen at hn
  go_enter Try.func5, Try.ntmps5
  go_wp2
  go_ret
  exact ⟨rfl, Below.refl _ _⟩

/-! ### STEP 1: THE WALK: the Go text returns true, AND WRITES NOTHING THAT WAS THERE: 'Below w.heap.size w w'' (Derived/Below.lean: '.refl', '.alloc', '.drew', '.setCell' at a new block, '.trans'). Open each 'IsRow' by 'rcases' AHEAD of 'go_enter'; part every test ahead of the walk. -/
theorem walk (a0 : Option Addr) (len0 cap0 : Nat) (z0 : List Int) (w : World) (w0 : IsRow .u8 w a0 len0 cap0 z0) :
    Calls Try.prog 5 #[.slice a0 len0 cap0] w fun e w' => e = .returned (.bool true) ∧ Below w.heap.size w w' := by
  rcases w0 with ⟨rfl, rfl, rfl, rfl⟩ | ⟨x, rfl, hlen, hcap, hz, hcell, hwf⟩
  · exact walk_zero none 0 w (fun W => (Vex.clone_nil W).mono fun e w' h => ⟨⟨none, h.1⟩, by rw [h.2]; exact Below.refl _ _⟩)
  · have hb : len0 ≤ maxLen := Nat.le_trans hlen hcap
    by_cases hbig : 1048576 < len0
    · exact walk_big _ _ _ w hbig hb
    · by_cases h0 : len0 = 0
      · subst h0
        exact walk_zero (some x) cap0 w (fun W => (Vex.clone_empty x cap0 W).mono fun e w' h => ⟨⟨_, h.1⟩, h.2.1⟩)
      · have hr := range_u8 hwf
        obtain ⟨bb, off, spot⟩ := x
        have hspot : spot = none := by simpa [Addr.add] using World.cell?_spot (hcell 0 (by omega))
        subst hspot
        exact walk_row bb off len0 cap0 (fun j => z0.getD j 0) w (by omega) (by omega) (fun k => by have := hr k; simp only [List.getD_eq_getElem?_getD]; omega) (fun j hj => by rw [← add_plain]; exact hcell j (by omega))

/-! ### THE ROW's STEP: WRITTEN OUT: LEAVE IT -/
set_option maxRecDepth 100000 in
theorem lifted (os : Os) (started : os.Started) (H : Type) (enc : TypeId × Value → H) :
    ReturnsInHanded {} Try.checked os 5 .any (Rows.fnBareVEXAgreesWithReadVEXSpec.pre6 enc Try.prog Try.f5 Rows.fnBareVEXAgreesWithReadVEXRow.domain false) (Rows.fnBareVEXAgreesWithReadVEXSpec.post enc Try.prog Try.f5 false true false false) := by
  refine returnsInHanded_of_change (C := Try.checked) own started (by kernel_rfl) Try.func5
    (ChangeSpec.witness6 (enc := enc) (C := Try.checked) false ⟨#[], #[.slice none 0 0], []⟩ 8 (by kernel_rfl) (by kernel_rfl) (by kernel_rfl) (by kernel_rfl)) ?_
  intro W base args ds gs before hval0 hW hcnd _
  have hval : ∀ (j : Nat) t v, Try.f5.params[j]? = some t → args[j]? = some v → Value.okWide Try.prog W .any base t v := hval0
  have hW' := hW
  obtain ⟨p, q, hA0, hV, rfl, hfz, hnd⟩ := hW
  have hA : DataW.TrodAll enc Try.prog W 0 (fun _ => true) true Try.f5.params.toList args.toList ds p := hA0
  rw [Try.params5] at hA hval
  obtain ⟨v0, vs0, d0, ds0, p0, q0, hargs, rfl, rfl, h0, r0⟩ := trodAll_cons hA
  obtain ⟨rfl, rfl, rfl⟩ := trodAll_nil r0
  obtain rfl : args = #[v0] := by cases args; simp_all
  obtain ⟨rfl, rfl⟩ := trodVars_none hV
  obtain ⟨a0, len0, cap0, rfl⟩ := okWide_slice Try.underlying22 (hval 0 22 v0 rfl rfl)
  have k0 := h0
  have lt0 : ∀ x ∈ p0, x.block < W.heap.size := by obtain ⟨m, hm⟩ := k0; exact DataW.trod_lt m _ _ _ hm
  obtain ⟨z0, w0⟩ : ∃ zs, IsRow .u8 W a0 len0 cap0 zs := by
    obtain ⟨fuel, hf⟩ := h0
    rcases open_ints Try.underlying22 Try.underlying5 (by kernel_rfl) hf with ⟨hcs, _⟩ | ⟨x, l, c, zs, hcs, _, hl, hm, hz, _, hcell, hwz⟩
    · simp [Value.cells] at hcs
      obtain ⟨rfl, rfl, rfl⟩ := hcs
      exact ⟨[], .inl ⟨rfl, rfl, rfl, rfl⟩⟩
    · simp [Value.cells] at hcs
      obtain ⟨rfl, rfl, rfl⟩ := hcs
      exact ⟨zs, .inr ⟨_, rfl, hl, hm, by simpa using hz, hcell, hwz⟩⟩
  clear hA0 hval0
  refine (walk a0 len0 cap0 z0 W w0).mono fun e W' ⟨he, bel⟩ => ?_
  subst he
  exact ⟨_, rfl, _, _, _, [], _, [], hW', trodAll_mk1 (shut_bool Try.underlying4 _), (trodAll_cons_mk (Below.trod laidOut (by kernel_rfl) (of_decide_eq_true (by kernel_rfl)) k0 bel lt0) trodAll_mk0), rfl, bel.frame _, fun h => by cases h⟩

theorem over : Rows.fnBareVEXAgreesWithReadVEXRow.holds Try.pinned (OpenSpec.ofChange Rows.fnBareVEXAgreesWithReadVEXSpec) :=
  OpenClaim.holds_of_wide 5 Try.f5 rfl rfl rfl rfl rfl rfl rfl ⟨rfl, rfl, rfl, rfl, rfl⟩ rfl rfl rfl rfl rfl (by kernel_rfl) Try.func5 (by kernel_rfl)
    (of_decide_eq_true (by kernel_rfl)) (by unfold Func.isWrapper; first | (rw [if_pos (by decide +kernel)]; kernel_rfl) | (rw [if_neg (by decide +kernel)]; exact ⟨rfl, rfl⟩))
    (fun os started H enc _ => lifted os started H enc)

/-- ████ THE STATEMENT ████ -/
theorem proved : Rows.FnBareVEXAgreesWithReadVEXSaid := over
end Go.Proofs.Qxb6617393a.fnBareVEXAgreesWithReadVEX
