/-
  The proof of 'Rows.FnPostgresFoldIsTheLongestPrefixThatSplitsNoCharacterSaid'. The frame is the guide's template, written by program; the walk is filled in.
-/
import Derived.Test.Qxb6617264aRows
import Derived.WalkKit
import Derived.ProofKit
import Derived.OpenShut
import Derived.ShutString
import Derived.Test.Qxb6617264aFold
namespace Go.Proofs.Qxb6617264a.fnPostgresFoldIsTheLongestPrefixThatSplitsNoCharacter
open Go.ChangeShapes Go.WideShapes Go.ChangeAt Go.RowKit
open Go.ChangeMaps (open_string shut_string)
set_option linter.unusedVariables false      -- a walk need not use every 'w<i>' (that an integer argument fits its kind)

theorem own : ownKnob Try.prog.godebug = none := by kernel_rfl

theorem bytes_any (s : ByteArray) (w : World) (h : s.size ≤ 1048576) :
    Calls Try.prog 6 #[.string s] w fun e w' => e = .returned (.bool true) ∧ w' = w := by
  go_enter Try.func6, Try.ntmps6
  go_wp2
  go_ret
  exact ⟨rfl, rfl⟩

/-! ### STEP 1: THE WALK: the Go text returns true. 'Grown w w'': the world has at most new blocks (Derived/RowKit3.lean). Part the cases AHEAD of 'go_enter' where a test parts the walk; take each callee by a contract of your own. -/
theorem walk (a0 : ByteArray) (w0 : a0.size ≤ maxLen) (w : World) :
    Calls Try.prog 3 #[.string a0] w fun e w' => e = .returned (.bool true) ∧ Grown w w' := by
  have hy : a0.size ≤ maxLen := w0
  unfold maxLen at w0
  by_cases hz : 1048576 < a0.size
  · go_enter Try.func3, Try.ntmps3
    go_wp2
    go_ret
    exact ⟨rfl, Grown.refl _⟩
  · by_cases h6 : a0.size ≤ 63
    · go_enter Try.func3, Try.ntmps3
      go_wp2_with (first | (go_at_call 7; refine (Fold.fold_any _ _ (by assumption)).mono ?_; rintro e w' ⟨rfl, rfl⟩) | (go_at_call 6; refine (bytes_any _ _ (by omega)).mono ?_; rintro e w' ⟨rfl, rfl⟩))
      go_ret
      exact ⟨Fold.ret_bool (by rw [Fold.foldS_short _ (by omega)]; simp), Grown.refl _⟩
    · have c7 := fun w => Fold.fold_any a0 w hy
      have H1 : Hid (∀ m, m ≤ 63 → (m = Fold.cut63 a0 → m ≠ 0 → Fold.rs a0 m = true) ∧ (Fold.cut63 a0 < m → Fold.rs a0 m = false)) := by
        intro m hm
        refine ⟨?_, fun h => Fold.cutAt_gap a0 63 m h hm⟩
        rintro rfl h
        rcases Fold.cutAt_start a0 63 with h' | h'
        · exact absurd h' h
        · exact h'
      have hs := Fold.foldS_size a0 (by omega)
      have H2 : Hid (Fold.foldS a0 = a0.extract 0 (Fold.cut63 a0)) := Fold.foldS_long a0 (by omega)
      have hn := Fold.cut63_le a0
      generalize Fold.foldS a0 = g at *
      generalize Fold.cut63 a0 = n at *
      go_enter Try.func3, Try.ntmps3
      go_wp2_with (first | (go_at_call 7; refine (c7 _).mono ?_; rintro e w' ⟨rfl, rfl⟩) | (go_at_call 6; refine (bytes_any _ _ (by omega)).mono ?_; rintro e w' ⟨rfl, rfl⟩) | (go_at_call 8; refine (Fold.continues_any _ _ (by omega) (Fold.u8lt _)).mono ?_; rintro e w' ⟨rfl, rfl⟩))
      · rename_i hne
        exact absurd hne (by rw [H2.out]; simp)
      · have hlt : n < a0.size := by omega
        have hr : (!Fold.rstart (a0[n].toNat : Int)) = true := by assumption
        have h := (H1.out n hn).1 rfl (by omega)
        rw [Fold.rs_at a0 n hlt] at h
        rw [h] at hr
        exact absurd hr (by simp)
      all_goals
        try (rename (!Fold.rstart _) = false => hq; clear hq)
        go_loop [5] (fun i => ∃ m : Nat, n < m ∧ m ≤ 64 ∧ i = .int .i64 m) (fun i => 64 - (intOf i).toNat)
        case atStart => exact ⟨n + 1, by omega, by omega, by go_num⟩
        case round =>
          obtain ⟨m, hm1, hm2, rfl⟩ := hrel
          by_cases h3 : m ≤ 63
          · have hlm : m < a0.size := by omega
            go_wp2_with (go_at_call 8; refine (Fold.continues_any _ _ (by omega) (Fold.u8lt _)).mono ?_; rintro e w' ⟨rfl, rfl⟩)
            · have hr : Fold.rstart (a0[m].toNat : Int) = true := by assumption
              have h := (H1.out m h3).2 hm1
              rw [Fold.rs_at a0 m hlm] at h
              rw [h] at hr
              exact absurd hr (by simp)
            · go_round
              case rel => exact ⟨m + 1, by omega, by omega, by go_num⟩
              case measure => simp [intOf]; omega
          · go_wp2
            go_ret
            exact ⟨rfl, Grown.refl _⟩

/-! ### THE ROW's STEP: WRITTEN OUT: LEAVE IT -/
set_option maxRecDepth 100000 in
theorem lifted (os : Os) (started : os.Started) (H : Type) (enc : TypeId × Value → H) :
    ReturnsInHanded {} Try.checked os 3 .any (Rows.fnPostgresFoldIsTheLongestPrefixThatSplitsNoCharacterSpec.pre6 enc Try.prog Try.f3 Rows.fnPostgresFoldIsTheLongestPrefixThatSplitsNoCharacterRow.domain false) (Rows.fnPostgresFoldIsTheLongestPrefixThatSplitsNoCharacterSpec.post enc Try.prog Try.f3 false true false false) := by
  refine returnsInHanded_of_change (C := Try.checked) own started (by kernel_rfl) Try.func3
    (ChangeSpec.witness6 (enc := enc) (C := Try.checked) false ⟨#[], #[.string ByteArray.empty], []⟩ 8 (by kernel_rfl) (by kernel_rfl) (by kernel_rfl) (by kernel_rfl)) ?_
  intro W base args ds gs before hval0 hW hcnd _
  have hval : ∀ (j : Nat) t v, Try.f3.params[j]? = some t → args[j]? = some v → Value.okWide Try.prog W .any base t v := hval0
  have hW' := hW
  obtain ⟨p, q, hA0, hV, rfl, hfz, hnd⟩ := hW
  have hA : DataW.TrodAll enc Try.prog W 0 (fun _ => true) true Try.f3.params.toList args.toList ds p := hA0
  rw [Try.params3] at hA hval
  obtain ⟨v0, vs0, d0, ds0, p0, q0, hargs, rfl, rfl, h0, r0⟩ := trodAll_cons hA
  obtain ⟨rfl, rfl, rfl⟩ := trodAll_nil r0
  obtain rfl : args = #[v0] := by cases args; simp_all
  obtain ⟨rfl, rfl⟩ := trodVars_none hV
  obtain ⟨a0, rfl, rfl, rfl, w0⟩ := open_string Try.underlying9 (hval 0 9 v0 rfl rfl) h0
  clear hA0 hval0
  simp only [List.append_nil] at hW'
  refine (walk a0 w0 W).mono fun e W' ⟨he, hg⟩ => ?_
  subst he
  exact ⟨_, rfl, post_of_same (pa := []) (pv := []) hW' (fun _ _ _ => (trodAll_cons_mk (shut_bool Try.underlying4 _) trodAll_mk0)) (fun sp _ => (trodAll_cons_mk (shut_string Try.underlying9 w0) trodAll_mk0)) (fun _ _ => rfl) rfl
    (hg.frame _) hg.2.1 (ok_one (by kernel_rfl) rfl (okWide_bool_mk Try.underlying4 _))⟩

theorem over : Rows.fnPostgresFoldIsTheLongestPrefixThatSplitsNoCharacterRow.holds Try.pinned (OpenSpec.ofChange Rows.fnPostgresFoldIsTheLongestPrefixThatSplitsNoCharacterSpec) :=
  OpenClaim.holds_of_wide 3 Try.f3 rfl rfl rfl rfl rfl rfl rfl ⟨rfl, rfl, rfl, rfl, rfl⟩ rfl rfl rfl rfl rfl (by kernel_rfl) Try.func3 (by kernel_rfl)
    (of_decide_eq_true (by kernel_rfl)) (by unfold Func.isWrapper; first | (rw [if_pos (by decide +kernel)]; kernel_rfl) | (rw [if_neg (by decide +kernel)]; exact ⟨rfl, rfl⟩))
    (fun os started H enc _ => lifted os started H enc)

/-- ████ THE STATEMENT ████ -/
theorem proved : Rows.FnPostgresFoldIsTheLongestPrefixThatSplitsNoCharacterSaid :=
  over
end Go.Proofs.Qxb6617264a.fnPostgresFoldIsTheLongestPrefixThatSplitsNoCharacter
