/-
  The proof of 'Rows.FnDigestAtMatchesModelSaid'. The frame is the guide's template, written by program; the walk is filled in.
-/
import Derived.Test.Qxb6617312aRows
import Derived.WalkKit
import Derived.ProofKit
import Derived.OpenShut
import Derived.ShutString
import Derived.ChangeOld
import Derived.Below
import Derived.Test.Qxb6617312aCopy
import Derived.Test.Qxb6617312aAt
namespace Go.Proofs.Qxb6617312a.fnDigestAtMatchesModel
open Go.ChangeShapes Go.WideShapes Go.ChangeAt Go.RowKit
open Go.ChangeMaps (open_string shut_string)
set_option linter.unusedVariables false

theorem own : ownKnob Try.prog.godebug = none := by kernel_rfl
theorem laidOut : laidOutB Try.prog = true := by kernel_rfl

/-- WHAT THE WALK IS TOLD OF A SLICE OF INTEGERS THAT CAME IN: it is nil; or it leads to a row of 'cap' cells, the numbers 'zs' (the first 'len' are its elements, the rest its spare room), each fitting its kind. -/
def IsRow (k : IntKind) (w : World) (a : Option Addr) (len cap : Nat) (zs : List Int) : Prop :=
  (a = none ∧ len = 0 ∧ cap = 0 ∧ zs = []) ∨
  ∃ x, a = some x ∧ len ≤ cap ∧ cap ≤ maxLen ∧ zs.length = cap ∧ (∀ i, i < zs.length → w.cell? (x.add i) = some (.int k (zs.getD i 0))) ∧ ∀ n ∈ zs, (Lit.int k n).wf = true

theorem bytes_any (a : Option Addr) (n cap : Nat) (i : Int) (s : ByteArray) (w : World) (h : n ≤ 262144) (hs : s.size ≤ 262144) :
    Calls Try.prog 5 #[.slice a n cap, .int .i64 i, .string s] w fun e w' => e = .returned (.bool true) ∧ w' = w := by
  go_enter Try.func5, Try.ntmps5
  go_wp2
  go_ret
  exact ⟨rfl, rfl⟩

/-! ### the nil slice -/
theorem at_nil (s : ByteArray) (hs : s.size = 0) (w : World) :
    Calls Try.prog 11 #[.slice none 0 0, .int .i64 0, .string s] w fun e w' => e = .returned (.int .i64 (-1)) ∧ Below w.heap.size w w' := by
  have kc := fun (w : World) (C : Array Value) (n c : Nat) => Lib.run_convert_bytes_const (P := Try.prog) w 22 5 C n c Try.underlying22 Try.underlying5
  go_enter Try.func11, Try.ntmps11
  go_wp2_with (first | (go_at_call 18; go_must (refine (Dig.prefix_short _ _ _ _ _ (by omega)).mono ?_); rintro e w' ⟨rfl, rfl⟩))
  go_ret
  exact ⟨rfl, (Below.refl _ _).alloc (Nat.le_refl _) _⟩
theorem model_nil (w : World) :
    Calls Try.prog 7 #[.slice none 0 0, .int .i64 0] w fun e w' => e = .returned (.int .i64 (-1)) ∧ w' = w := by
  go_enter Try.func7, Try.ntmps7
  go_wp2
  refine wp_loop_rounds 1 ?_
  rw [rounds_succ]
  go_wp2
  go_ret
  exact ⟨rfl, rfl⟩
theorem zz_nil (s : ByteArray) (hs : s.size = 0) (w : World) :
    Calls Try.prog 6 #[.slice none 0 0, .int .i64 0, .string s] w fun e w' => e = .returned (.int .i64 (-1)) ∧ Below w.heap.size w w' := by
  go_enter Try.func6, Try.ntmps6
  go_wp2_with (go_at_call 11; refine (at_nil _ hs _).mono ?_; rintro e w' ⟨rfl, hb⟩)
  go_ret
  exact ⟨rfl, hb⟩

theorem walk_nil (i : Int) (s : ByteArray) (w : World) (hs : s.size ≤ maxLen) :
    Calls Try.prog 3 #[.slice none 0 0, .int .i64 i, .string s] w fun e w' => e = .returned (.bool true) ∧ Below w.heap.size w w' := by
  have hnil := fun w a n c => run_neq_slice_nil_any (P := Try.prog) w 22 5 a n c 0 0 Try.underlying22
  unfold maxLen at hs
  by_cases hz : 262144 < s.size
  · go_enter Try.func3, Try.ntmps3
    go_wp2
    all_goals
      go_ret
      exact ⟨rfl, Below.refl _ _⟩
  · by_cases hk : i < 0
    · go_enter Try.func3, Try.ntmps3
      go_wp2_with (first | (go_at_call 5; refine (bytes_any _ _ _ _ _ _ (by omega) (by omega)).mono ?_; rintro e w' ⟨rfl, rfl⟩))
      go_ret
      exact ⟨rfl, Below.refl _ _⟩
    · by_cases hk0 : 0 < i
      · go_enter Try.func3, Try.ntmps3
        go_wp2_with (first | (go_at_call 5; refine (bytes_any _ _ _ _ _ _ (by omega) (by omega)).mono ?_; rintro e w' ⟨rfl, rfl⟩))
        go_ret
        exact ⟨rfl, Below.refl _ _⟩
      · obtain rfl : i = 0 := by omega
        by_cases h0 : s.size = 0
        · go_enter Try.func3, Try.ntmps3
          go_wp2_with (first | (go_at_call 5; refine (bytes_any _ _ _ _ _ _ (by omega) (by omega)).mono ?_; rintro e w' ⟨rfl, rfl⟩) | (go_at_call 6; refine (zz_nil _ h0 _).mono ?_; rintro e w' ⟨rfl, hb⟩) | (go_at_call 7; refine (model_nil _).mono ?_; rintro e w' ⟨rfl, rfl⟩))
          go_ret
          exact ⟨rfl, hb⟩
        · go_enter Try.func3, Try.ntmps3
          go_wp2_with (first | (go_at_call 5; refine (bytes_any _ _ _ _ _ _ (by omega) (by omega)).mono ?_; rintro e w' ⟨rfl, rfl⟩))
          go_ret
          exact ⟨rfl, Below.refl _ _⟩

/-! ### a slice over a row -/
theorem zz_row (b n i : Nat) (s : ByteArray) (f : Nat → Int) (w : World) (hn : n ≤ 262144) (hp : i + s.size ≤ n) (hb : b < w.heap.size) (hr : ∀ k, 0 ≤ f k ∧ f k < 256)
    (hcell : ∀ j, j < n → w.cell? ⟨b, 0 + j, none⟩ = some (.int .u8 (f j))) :
    Calls Try.prog 6 #[.slice (some ⟨b, 0, none⟩) n n, .int .i64 i, .string s] w fun e w' => Dig.RetRes f n (i + s.size) e ∧ Below w.heap.size w w' := by
  have c11 := Dig.digestAt_row b n i s f w hn hp hb hr hcell
  clear hcell hr
  go_enter Try.func6, Try.ntmps6
  go_wp2_with (go_at_call 11; refine c11.mono ?_; rintro e w' ⟨⟨v, rfl, hv⟩, hb⟩; have HV : Hid (Dig.Res f n (i + s.size) v) := hv; clear hv)
  go_ret
  exact ⟨⟨v, rfl, HV.out⟩, hb⟩

/-- 'zzc := make([]byte, len(b)); copy(zzc, b)': what 'Hex.copied' says, and that the new row is there -/
theorem copied_more (x : Addr) (n cap : Nat) (f : Nat → Int) (w : World)
    (hcell : ∀ j, j < n → w.cell? (x.add j) = some (.int .u8 (f j))) :
    ∃ W2, (Builtin.copy_ #[22, 22] 3 #[.slice (some ⟨w.heap.size, 0, none⟩) n n, .slice (some x) n cap]).run Try.prog (w.alloc (.cells (madeCells #[.int .u8 0] n) 5)) = .ok (.int .i64 (n : Int)) W2 ∧
      (∀ j, j < n → W2.cell? ⟨w.heap.size, j, none⟩ = some (.int .u8 (f j))) ∧ Below w.heap.size w W2 ∧ w.heap.size < W2.heap.size := by
  obtain ⟨cs, hcs⟩ : ∃ cs : List Value, cs = (List.range n).map fun j => Value.int .u8 (f j) := ⟨_, rfl⟩
  have hlen : cs.length = n := by rw [hcs]; simp
  have hg : (w.alloc (.cells (madeCells #[.int .u8 0] n) 5)).heap[w.heap.size]? = some (.cells (madeCells #[.int .u8 0] n) 5 (0, 0)) := by
    show (w.heap.push _)[w.heap.size]? = _
    simp
  have hb : Below w.heap.size w (w.alloc (.cells (madeCells #[.int .u8 0] n) 5)) := (Below.refl _ _).alloc (Nat.le_refl _) _
  have hsrc : ∀ j v, cs[j]? = some v → (w.alloc (.cells (madeCells #[.int .u8 0] n) 5)).cell? (x.add j) = some v := by
    intro j v hv
    have hj : j < n := by
      have := List.getElem?_eq_some_iff.1 hv
      obtain ⟨h, _⟩ := this
      omega
    have e : v = .int .u8 (f j) := by
      rw [hcs] at hv
      simp [hj] at hv
      exact hv.symm
    rw [e]
    exact cell_later hb (hcell j hj)
  have h := run_copy_row (P := Try.prog) (w.alloc (.cells (madeCells #[.int .u8 0] n) 5)) 22 22 3 5 w.heap.size 0 n n x n cap (madeCells #[.int .u8 0] n) 5 cs Try.underlying22 Hex.size5 hg
    (by rw [hlen]; exact (Nat.min_self n).symm) hsrc (by rw [hlen, size_madeCells]; omega) (by rw [hcs]; intro v hv; simp at hv; obtain ⟨j, _, rfl⟩ := hv; rfl)
  rw [hlen] at h
  refine ⟨_, h, fun j hj => ?_, below_setRow hb (Nat.le_refl _) _, by rw [size_setRow]; simp⟩
  rw [cell_setRow_same _ _ _ _ _ _ _ hg]
  have hd : (madeCells #[Value.int .u8 0] n).toList.drop (0 + n) = [] := by
    rw [List.drop_eq_nil_iff]; simp [size_madeCells]
  rw [hd]
  simp [hcs, hj]

theorem below_draws {B : Nat} {a w : World} (h : Below B a w) (n : Nat) : Below B a (w.drewN n) := h.trans ⟨rfl, rfl, rfl, Nat.le_refl _, fun _ _ => rfl⟩

theorem walk_row (x : Addr) (n cap : Nat) (f : Nat → Int) (i : Int) (s : ByteArray) (w : World) (hn : n ≤ maxLen) (hs : s.size ≤ maxLen) (hr : ∀ k, 0 ≤ f k ∧ f k < 256)
    (hcell : ∀ j, j < n → w.cell? (x.add j) = some (.int .u8 (f j))) :
    Calls Try.prog 3 #[.slice (some x) n cap, .int .i64 i, .string s] w fun e w' => e = .returned (.bool true) ∧ Below w.heap.size w w' := by
  have hnil := fun w a n c => run_neq_slice_nil_any (P := Try.prog) w 22 5 a n c 0 0 Try.underlying22
  unfold maxLen at hn hs
  by_cases hz : 262144 < n
  · have HRc : Hid (∀ j, j < n → w.cell? (x.add j) = some (.int .u8 (f j))) := hcell
    clear hcell hr
    go_enter Try.func3, Try.ntmps3
    go_wp2
    all_goals
      go_ret
      exact ⟨rfl, Below.refl _ _⟩
  · by_cases hz2 : 262144 < s.size
    · clear hcell hr
      go_enter Try.func3, Try.ntmps3
      go_wp2
      all_goals
        go_ret
        exact ⟨rfl, Below.refl _ _⟩
    · by_cases hk : i < 0 ∨ (n : Int) < i ∨ (n : Int) - i < s.size
      · clear hcell hr
        by_cases hk1 : i < 0
        · go_enter Try.func3, Try.ntmps3
          go_wp2_with (first | (go_at_call 5; refine (bytes_any _ _ _ _ _ _ (by omega) (by omega)).mono ?_; rintro e w' ⟨rfl, rfl⟩))
          go_ret
          exact ⟨rfl, Below.refl _ _⟩
        · by_cases hk2 : (n : Int) < i
          all_goals
            go_enter Try.func3, Try.ntmps3
            go_wp2_with (first | (go_at_call 5; refine (bytes_any _ _ _ _ _ _ (by omega) (by omega)).mono ?_; rintro e w' ⟨rfl, rfl⟩))
            go_ret
            exact ⟨rfl, Below.refl _ _⟩
      · obtain ⟨c, rfl⟩ : ∃ c : Nat, i = c := ⟨i.toNat, by omega⟩
        have hc : c + s.size ≤ n := by omega
        have hmk := Hex.made n (by omega)
        obtain ⟨W2, hcp, hrow, hbel, hsz⟩ := copied_more x n cap f w hcell
        have c6 := zz_row w.heap.size n c s f W2 (by omega) hc hsz hr (fun j hj => by rw [Nat.zero_add]; exact hrow j hj)
        have c7 : ∀ w3, Below W2.heap.size W2 w3 → Calls Try.prog 7 #[.slice (some ⟨w.heap.size, 0, none⟩) n n, .int .i64 ((c : Int) + (s.size : Int))] w3 fun e w' => Dig.RetRes f n (c + s.size) e ∧ ∃ m, w' = w3.drewN m := fun w3 hb3 => by
          have := Dig.model_row w.heap.size n (c + s.size) f w3 (by omega) (by omega) (fun j hj => by rw [Nat.zero_add]; exact cell_later hb3 (hrow j hj))
          rwa [show ((c + s.size : Nat) : Int) = (c : Int) + (s.size : Int) by omega] at this
        clear hrow hcell hr
        go_enter Try.func3, Try.ntmps3
        go_wp2_with (first | (go_at_call 5; refine (bytes_any _ _ _ _ _ _ (by omega) (by omega)).mono ?_; rintro e w' ⟨rfl, rfl⟩) | (go_at_call 6; go_must (refine c6.mono ?_); rintro e w' ⟨⟨v, rfl, hv⟩, hb⟩; have HV : Hid (Dig.Res f n (c + s.size) v) := hv; clear hv) | (go_at_call 7; go_must (refine (c7 _ (by assumption)).mono ?_); rintro e w' ⟨⟨v7, rfl, hv⟩, m, rfl⟩; have HV7 : Hid (Dig.Res f n (c + s.size) v7) := hv; clear hv))
        go_ret
        refine ⟨Hex.ret_bool ?_, below_draws (hbel.trans (hb.mono (Nat.le_of_lt hsz))) _⟩
        rw [HV.out.same HV7.out]
        simp

/-! ### STEP 1: THE WALK: the Go text returns true, AND WRITES NOTHING THAT WAS THERE: 'Below w.heap.size w w'' (Derived/Below.lean: '.refl', '.alloc', '.drew', '.setCell' at a new block, '.trans'). Open each 'IsRow' by 'rcases' AHEAD of 'go_enter'; part every test ahead of the walk. -/
theorem walk (a0 : Option Addr) (len0 cap0 : Nat) (z0 : List Int) (a1 : Int) (a2 : ByteArray) (w : World) (w0 : IsRow .u8 w a0 len0 cap0 z0) (w1 : (Lit.int .i64 a1).wf = true) (w2 : a2.size ≤ maxLen) :
    Calls Try.prog 3 #[.slice a0 len0 cap0, .int .i64 a1, .string a2] w fun e w' => e = .returned (.bool true) ∧ Below w.heap.size w w' := by
  rcases w0 with ⟨rfl, rfl, rfl, rfl⟩ | ⟨x, rfl, hlen, hcap, hz, hcell, hwf⟩
  · exact walk_nil a1 a2 w w2
  · have hb : len0 ≤ maxLen := Nat.le_trans hlen hcap
    have hr := range_u8 hwf
    exact walk_row x len0 cap0 (fun j => z0.getD j 0) a1 a2 w hb w2 (fun k => by have := hr k; simp only [List.getD_eq_getElem?_getD]; omega) (fun j hj => hcell j (by omega))

/-! ### THE ROW's STEP: WRITTEN OUT: LEAVE IT -/
set_option maxRecDepth 100000 in
theorem lifted (os : Os) (started : os.Started) (H : Type) (enc : TypeId × Value → H) :
    ReturnsInHanded {} Try.checked os 3 .any (Rows.fnDigestAtMatchesModelSpec.pre6 enc Try.prog Try.f3 Rows.fnDigestAtMatchesModelRow.domain false) (Rows.fnDigestAtMatchesModelSpec.post enc Try.prog Try.f3 false true false false) := by
  refine returnsInHanded_of_change (C := Try.checked) own started (by kernel_rfl) Try.func3
    (ChangeSpec.witness6 (enc := enc) (C := Try.checked) false ⟨#[], #[.slice none 0 0, .int .i64 0, .string ByteArray.empty], []⟩ 8 (by kernel_rfl) (by kernel_rfl) (by kernel_rfl) (by kernel_rfl)) ?_
  intro W base args ds gs before hval0 hW hcnd _
  have hval : ∀ (j : Nat) t v, Try.f3.params[j]? = some t → args[j]? = some v → Value.okWide Try.prog W .any base t v := hval0
  have hW' := hW
  obtain ⟨p, q, hA0, hV, rfl, hfz, hnd⟩ := hW
  have hA : DataW.TrodAll enc Try.prog W 0 (fun _ => true) true Try.f3.params.toList args.toList ds p := hA0
  rw [Try.params3] at hA hval
  obtain ⟨v0, vs0, d0, ds0, p0, q0, hargs, rfl, rfl, h0, r0⟩ := trodAll_cons hA
  obtain ⟨v1, vs1, d1, ds1, p1, q1, rfl, rfl, rfl, h1, r1⟩ := trodAll_cons r0
  obtain ⟨v2, vs2, d2, ds2, p2, q2, rfl, rfl, rfl, h2, r2⟩ := trodAll_cons r1
  obtain ⟨rfl, rfl, rfl⟩ := trodAll_nil r2
  obtain rfl : args = #[v0, v1, v2] := by cases args; simp_all
  obtain ⟨rfl, rfl⟩ := trodVars_none hV
  obtain ⟨a0, len0, cap0, rfl⟩ := okWide_slice Try.underlying22 (hval 0 22 v0 rfl rfl)
  have k0 := h0
  have lt0 : ∀ x ∈ p0, x.block < W.heap.size := by obtain ⟨m, hm⟩ := k0; exact DataW.trod_lt m _ _ _ hm
  obtain ⟨z0, w0⟩ : ∃ zs, IsRow .u8 W a0 len0 cap0 zs := by
    obtain ⟨fuel, hf⟩ := h0
    rcases open_ints Try.underlying22 Try.underlying5 (by kernel_rfl) hf with ⟨hcs, _⟩ | ⟨x, l, c, zs, hcs, _, hl, hm, hz, _, hcell, hwz⟩
    · simp [Value.cells] at hcs
      obtain ⟨rfl, rfl, rfl⟩ := hcs
      exact ⟨[], .inl ⟨rfl, rfl, rfl, rfl⟩⟩
    · simp [Value.cells] at hcs
      obtain ⟨rfl, rfl, rfl⟩ := hcs
      exact ⟨zs, .inr ⟨_, rfl, hl, hm, by simpa using hz, hcell, hwz⟩⟩
  obtain ⟨a1, rfl, rfl, rfl, w1⟩ := open_int Try.underlying3 (hval 1 3 v1 rfl rfl) h1
  obtain ⟨a2, rfl, rfl, rfl, w2⟩ := open_string Try.underlying9 (hval 2 9 v2 rfl rfl) h2
  clear hA0 hval0
  refine (walk a0 len0 cap0 z0 a1 a2 W w0 w1 w2).mono fun e W' ⟨he, bel⟩ => ?_
  subst he
  exact ⟨_, rfl, _, _, _, [], _, [], hW', trodAll_mk1 (shut_bool Try.underlying4 _), (trodAll_cons_mk (Below.trod laidOut (by kernel_rfl) (of_decide_eq_true (by kernel_rfl)) k0 bel lt0) (trodAll_cons_mk (shut_int Try.underlying3 w1) (trodAll_cons_mk (shut_string Try.underlying9 w2) trodAll_mk0))), rfl, bel.frame _, fun h => by cases h⟩

theorem over : Rows.fnDigestAtMatchesModelRow.holds Try.pinned (OpenSpec.ofChange Rows.fnDigestAtMatchesModelSpec) :=
  OpenClaim.holds_of_wide 3 Try.f3 rfl rfl rfl rfl rfl rfl rfl ⟨rfl, rfl, rfl, rfl, rfl⟩ rfl rfl rfl rfl rfl (by kernel_rfl) Try.func3 (by kernel_rfl)
    (of_decide_eq_true (by kernel_rfl)) (by unfold Func.isWrapper; first | (rw [if_pos (by decide +kernel)]; kernel_rfl) | (rw [if_neg (by decide +kernel)]; exact ⟨rfl, rfl⟩))
    (fun os started H enc _ => lifted os started H enc)

/-- ████ THE STATEMENT ████ -/
theorem proved : Rows.FnDigestAtMatchesModelSaid := over
end Go.Proofs.Qxb6617312a.fnDigestAtMatchesModel
