/-
  The proof of 'Rows.FnPostgresFoldKeepsValidTextValidAndAtLeast60BytesSaid'. The frame is the guide's template, written by program; the walk is filled in.
-/
import Derived.Test.Qxb6617264aRows
import Derived.WalkKit
import Derived.ProofKit
import Derived.OpenShut
import Derived.ShutString
import Derived.Test.Qxb6617264aValid
namespace Go.Proofs.Qxb6617264a.fnPostgresFoldKeepsValidTextValidAndAtLeast60Bytes
open Go.ChangeShapes Go.WideShapes Go.ChangeAt Go.RowKit
open Go.ChangeMaps (open_string shut_string)
set_option linter.unusedVariables false      -- a walk need not use every 'w<i>' (that an integer argument fits its kind)

theorem own : ownKnob Try.prog.godebug = none := by kernel_rfl

theorem not_no {b : Bool} (h : (!b) = false) : b = true := by simpa using h
theorem bytes_any (s : ByteArray) (w : World) (h : s.size ≤ 1048576) :
    Calls Try.prog 10 #[.string s] w fun e w' => e = .returned (.bool true) ∧ w' = w := by
  go_enter Try.func10, Try.ntmps10
  go_wp2
  go_ret
  exact ⟨rfl, rfl⟩

/-! ### STEP 1: THE WALK: the Go text returns true. 'Grown w w'': the world has at most new blocks (Derived/RowKit3.lean). Part the cases AHEAD of 'go_enter' where a test parts the walk; take each callee by a contract of your own. -/
theorem walk (a0 : ByteArray) (w0 : a0.size ≤ maxLen) (w : World) :
    Calls Try.prog 5 #[.string a0] w fun e w' => e = .returned (.bool true) ∧ Grown w w' := by
  have hy : a0.size ≤ maxLen := w0
  unfold maxLen at w0
  by_cases hz : 1048576 < a0.size
  · go_enter Try.func5, Try.ntmps5
    go_wp2
    go_ret
    exact ⟨rfl, Grown.refl _⟩
  · by_cases h6 : a0.size ≤ 63
    · go_enter Try.func5, Try.ntmps5
      go_wp2_with (first | (go_at_call 7; refine (Fold.fold_any _ _ (by assumption)).mono ?_; rintro e w' ⟨rfl, rfl⟩) | (go_at_call 10; refine (bytes_any _ _ (by omega)).mono ?_; rintro e w' ⟨rfl, rfl⟩) | (go_at_call 11; refine (Utf.valid_any _ _ (by assumption)).mono ?_; rintro e w' ⟨⟨b, rfl, hb⟩, rfl⟩; have HB : Hid (b = true ↔ Utf.Val a0 0) := hb; clear hb))
      · go_ret
        exact ⟨rfl, Grown.refl _⟩
      · go_ret
        exact ⟨Fold.ret_bool (by rw [Fold.foldS_short _ (by omega)]; simp), Grown.refl _⟩
    · have c7 := fun w => Fold.fold_any a0 w hy
      have H1 : Hid (Utf.Val a0 0 → 60 ≤ Fold.cut63 a0 ∧ Fold.cut63 a0 ≤ 63 ∧ Utf.Val (a0.extract 0 (Fold.cut63 a0)) 0) := Utf.fold_valid a0 (by omega)
      have hs := Fold.foldS_size a0 (by omega)
      have H2 : Hid (Fold.foldS a0 = a0.extract 0 (Fold.cut63 a0)) := Fold.foldS_long a0 (by omega)
      have hn := Fold.cut63_le a0
      generalize Fold.foldS a0 = g at *
      generalize Fold.cut63 a0 = n at *
      have hg : g.size ≤ maxLen := by rw [hs]; unfold maxLen; omega
      go_enter Try.func5, Try.ntmps5
      go_wp2_with (first | (go_at_call 7; refine (c7 _).mono ?_; rintro e w' ⟨rfl, rfl⟩) | (go_at_call 10; refine (bytes_any _ _ (by omega)).mono ?_; rintro e w' ⟨rfl, rfl⟩) | (go_at_call 11; refine (Utf.valid_any _ _ (by assumption)).mono ?_; rintro e w' ⟨⟨b, rfl, hb⟩, rfl⟩; first | (have HA : Hid (b = true ↔ Utf.Val a0 0) := hb; clear hb) | (have HB : Hid (b = true ↔ Utf.Val g 0) := hb; clear hb)))
      · go_ret
        exact ⟨rfl, Grown.refl _⟩
      · rename (!(_ == _)) = true => hne
        exact absurd hne (by rw [H2.out]; simp)
      · have hv : Utf.Val a0 0 := HA.out.1 (not_no ‹_›)
        obtain ⟨_, _, hv'⟩ := H1.out hv
        rw [← H2.out] at hv'
        go_ret
        exact ⟨Fold.ret_bool (HB.out.2 hv'), Grown.refl _⟩
      · have hv : Utf.Val a0 0 := HA.out.1 (not_no ‹_›)
        obtain ⟨h60, _, _⟩ := H1.out hv
        omega

/-! ### THE ROW's STEP: WRITTEN OUT: LEAVE IT -/
set_option maxRecDepth 100000 in
theorem lifted (os : Os) (started : os.Started) (H : Type) (enc : TypeId × Value → H) :
    ReturnsInHanded {} Try.checked os 5 .any (Rows.fnPostgresFoldKeepsValidTextValidAndAtLeast60BytesSpec.pre6 enc Try.prog Try.f5 Rows.fnPostgresFoldKeepsValidTextValidAndAtLeast60BytesRow.domain false) (Rows.fnPostgresFoldKeepsValidTextValidAndAtLeast60BytesSpec.post enc Try.prog Try.f5 false true false false) := by
  refine returnsInHanded_of_change (C := Try.checked) own started (by kernel_rfl) Try.func5
    (ChangeSpec.witness6 (enc := enc) (C := Try.checked) false ⟨#[], #[.string ByteArray.empty], []⟩ 8 (by kernel_rfl) (by kernel_rfl) (by kernel_rfl) (by kernel_rfl)) ?_
  intro W base args ds gs before hval0 hW hcnd _
  have hval : ∀ (j : Nat) t v, Try.f5.params[j]? = some t → args[j]? = some v → Value.okWide Try.prog W .any base t v := hval0
  have hW' := hW
  obtain ⟨p, q, hA0, hV, rfl, hfz, hnd⟩ := hW
  have hA : DataW.TrodAll enc Try.prog W 0 (fun _ => true) true Try.f5.params.toList args.toList ds p := hA0
  rw [Try.params5] at hA hval
  obtain ⟨v0, vs0, d0, ds0, p0, q0, hargs, rfl, rfl, h0, r0⟩ := trodAll_cons hA
  obtain ⟨rfl, rfl, rfl⟩ := trodAll_nil r0
  obtain rfl : args = #[v0] := by cases args; simp_all
  obtain ⟨rfl, rfl⟩ := trodVars_none hV
  obtain ⟨a0, rfl, rfl, rfl, w0⟩ := open_string Try.underlying9 (hval 0 9 v0 rfl rfl) h0
  clear hA0 hval0
  simp only [List.append_nil] at hW'
  refine (walk a0 w0 W).mono fun e W' ⟨he, hg⟩ => ?_
  subst he
  exact ⟨_, rfl, post_of_same (pa := []) (pv := []) hW' (fun _ _ _ => (trodAll_cons_mk (shut_bool Try.underlying4 _) trodAll_mk0)) (fun sp _ => (trodAll_cons_mk (shut_string Try.underlying9 w0) trodAll_mk0)) (fun _ _ => rfl) rfl
    (hg.frame _) hg.2.1 (ok_one (by kernel_rfl) rfl (okWide_bool_mk Try.underlying4 _))⟩

theorem over : Rows.fnPostgresFoldKeepsValidTextValidAndAtLeast60BytesRow.holds Try.pinned (OpenSpec.ofChange Rows.fnPostgresFoldKeepsValidTextValidAndAtLeast60BytesSpec) :=
  OpenClaim.holds_of_wide 5 Try.f5 rfl rfl rfl rfl rfl rfl rfl ⟨rfl, rfl, rfl, rfl, rfl⟩ rfl rfl rfl rfl rfl (by kernel_rfl) Try.func5 (by kernel_rfl)
    (of_decide_eq_true (by kernel_rfl)) (by unfold Func.isWrapper; first | (rw [if_pos (by decide +kernel)]; kernel_rfl) | (rw [if_neg (by decide +kernel)]; exact ⟨rfl, rfl⟩))
    (fun os started H enc _ => lifted os started H enc)

/-- ████ THE STATEMENT ████ -/
theorem proved : Rows.FnPostgresFoldKeepsValidTextValidAndAtLeast60BytesSaid :=
  over
end Go.Proofs.Qxb6617264a.fnPostgresFoldKeepsValidTextValidAndAtLeast60Bytes
