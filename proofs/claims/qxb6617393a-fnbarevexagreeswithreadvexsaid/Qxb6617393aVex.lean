import Derived.Test.Qxb6617393aRows
import Derived.WalkKit
import Derived.ProofKit
import Derived.Below
import Derived.WalkSpells
import Derived.Deep.OwnRows
namespace Go.Proofs.Qxb6617393a.Vex
open Go.ChangeShapes Go.WideShapes Go.ChangeAt Go.RowKit

theorem ret_bool {a b : Bool} (h : a = b) : Ending.returned (.bool a) = .returned (.bool b) := by rw [h]
theorem not_both {b : Bool} (h : b = true) (k : b = false) : False := by rw [h] at k; exact absurd k (by decide)

/-! ### the prefixes that may stand before a VEX prefix -/
def preB (c : Int) : Bool := decide (c = 38 ∨ c = 46 ∨ c = 54 ∨ c = 62 ∨ c = 100 ∨ c = 101 ∨ c = 103)
theorem pre_ways (c : Int) : (c = 38 ∧ preB c = true) ∨ (c = 46 ∧ preB c = true) ∨ (c = 54 ∧ preB c = true) ∨ (c = 62 ∧ preB c = true) ∨ (c = 100 ∧ preB c = true) ∨ (c = 101 ∧ preB c = true) ∨ (c = 103 ∧ preB c = true) ∨
    ((c == 38) = false ∧ (c == 46) = false ∧ (c == 54) = false ∧ (c == 62) = false ∧ (c == 100) = false ∧ (c == 101) = false ∧ (c == 103) = false ∧ preB c = false) := by
  by_cases h : c = 38 ∨ c = 46 ∨ c = 54 ∨ c = 62 ∨ c = 100 ∨ c = 101 ∨ c = 103
  · have hp : preB c = true := decide_eq_true h
    simp only [hp, and_true]
    omega
  · have hp : preB c = false := decide_eq_false h
    exact Or.inr (Or.inr (Or.inr (Or.inr (Or.inr (Or.inr (Or.inr ⟨by simp; omega, by simp; omega, by simp; omega, by simp; omega, by simp; omega, by simp; omega, by simp; omega, hp⟩))))))

theorem before_any (c : Int) (w : World) :
    Calls Try.prog 15 #[.int .u8 c] w fun e w' => e = .returned (.bool (preB c)) ∧ w' = w := by
  rcases pre_ways c with ⟨rfl, h⟩ | ⟨rfl, h⟩ | ⟨rfl, h⟩ | ⟨rfl, h⟩ | ⟨rfl, h⟩ | ⟨rfl, h⟩ | ⟨rfl, h⟩ | ⟨h1, h2, h3, h4, h5, h6, h7, h⟩
  all_goals
    have H : Hid _ := h
    clear h
    go_enter Try.func15, Try.ntmps15
    go_wp2
    go_ret
    exact ⟨ret_bool H.out.symm, rfl⟩
theorem seg_any (c : Int) (w : World) :
    Calls Try.prog 9 #[.int .u8 c] w fun e w' => e = .returned (.bool (preB c)) ∧ w' = w := by
  rcases pre_ways c with ⟨rfl, h⟩ | ⟨rfl, h⟩ | ⟨rfl, h⟩ | ⟨rfl, h⟩ | ⟨rfl, h⟩ | ⟨rfl, h⟩ | ⟨rfl, h⟩ | ⟨h1, h2, h3, h4, h5, h6, h7, h⟩
  all_goals
    have H : Hid _ := h
    clear h
    go_enter Try.func9, Try.ntmps9
    go_wp2
    go_ret
    exact ⟨ret_bool H.out.symm, rfl⟩

/-! ### cloneBytes -/
theorem info5 : (Try.prog.info? 5).map (fun i => (i.zero, i.size, i.bytes)) = some (some (.int .u8 0), 1, 1) := by kernel_rfl
theorem made (n : Nat) (hn : n ≤ 1048577) (w : World) :
    (Instr.makeSlice 22 (.int .i64 (n : Int)) (.int .i64 (n : Int))).run Try.prog w = .ok (.slice (some ⟨w.heap.size, 0, none⟩) n n) (w.alloc (.cells (madeCells #[.int .u8 0] n) 5)) :=
  run_make_row' 22 5 (.int .u8 0) 1 Try.underlying22 info5 rfl .i64 .i64 n (by omega) (by omega) w

theorem clone_nil (w : World) :
    Calls Try.prog 7 #[.slice none 0 0] w fun e w' => e = .returned (.slice none 0 0) ∧ w' = w := by
  have hnil := fun w a n c => Lib.run_eql_slice_nil (P := Try.prog) w 22 5 a n c 0 0 Try.underlying22
  go_enter Try.func7, Try.ntmps7
  go_wp2
  go_ret
  exact ⟨rfl, rfl⟩

/-- the copy: a new row that holds what the slice held -/
theorem clone_row (b off n cap : Nat) (f : Nat → Int) (w : World) (hn : n ≤ 1048576)
    (hcell : ∀ j, j < n → w.cell? ⟨b, off + j, none⟩ = some (.int .u8 (f j))) :
    Calls Try.prog 7 #[.slice (some ⟨b, off, none⟩) n cap] w fun e w' => e = .returned (.slice (some ⟨w.heap.size, 0, none⟩) n n) ∧ Below w.heap.size w w' ∧ w'.rowIs w.heap.size 5 n (fun j => .int .u8 (f j)) := by
  have hnil := fun w a n c => Lib.run_eql_slice_nil (P := Try.prog) w 22 5 a n c 0 0 Try.underlying22
  have hmk := made n (by omega)
  have HCell : Hid (∀ j, j < n → w.cell? ⟨b, off + j, none⟩ = some (.int .u8 (f j))) := hcell
  clear hcell
  go_enter Try.func7, Try.ntmps7
  go_wp2
  go_loopw [4] (fun i wr => ∃ k : Nat, k ≤ n ∧ i = .int .i64 k ∧ Below w.heap.size w wr ∧ wr.rowIs w.heap.size 5 n (fun j => .int .u8 (if j < k then f j else 0))) (fun i _ => n - (intOf i).toNat)
  case atStart => exact ⟨0, by omega, rfl, (Below.refl _ _).alloc (Nat.le_refl _) _, (World.rowIs_made w _ n 5).congr (fun j hj => by simp)⟩
  case round =>
    obtain ⟨k, hk, rfl, hbel, hrow⟩ := hrel
    have HRow : Hid (wr.rowIs w.heap.size 5 n (fun j => .int .u8 (if j < k then f j else 0))) := hrow
    by_cases hlt : k < n
    · have hc : wr.cell? ⟨b, off + k, none⟩ = some (.int .u8 (f k)) := cell_later hbel (HCell.out k hlt)
      have hd : wr.cell? ⟨w.heap.size, k, none⟩ = some (.int .u8 (if k < k then f k else 0)) := hrow.cell hlt
      have hf := hrow.frozen k
      clear hrow
      simp only [Nat.lt_irrefl, if_false] at hd
      go_wp2
      go_roundw
      case rel =>
        refine ⟨k + 1, by omega, by go_num, hbel.setCell (Nat.le_refl _) _, (HRow.out.set k _).congr (fun j hj => ?_)⟩
        show (if j = k then Value.int .u8 (f k) else Value.int .u8 (if j < k then f j else 0)) = Value.int .u8 (if j < k + 1 then f j else 0)
        by_cases e : j = k
        · subst e; simp
        · rw [if_neg e]
          by_cases e2 : j < k
          · rw [if_pos e2, if_pos (by omega)]
          · rw [if_neg e2, if_neg (by omega)]
      case measure => simp [intOf]; omega
    · go_wp2
      go_ret
      exact ⟨rfl, hbel, HRow.out.congr (fun j hj => by rw [if_pos (by omega)])⟩

theorem clone_empty (x : Addr) (cap : Nat) (w : World) :
    Calls Try.prog 7 #[.slice (some x) 0 cap] w fun e w' => e = .returned (.slice (some ⟨w.heap.size, 0, none⟩) 0 0) ∧ Below w.heap.size w w' ∧ w.heap.size < w'.heap.size := by
  have hnil := fun w a n c => Lib.run_eql_slice_nil (P := Try.prog) w 22 5 a n c 0 0 Try.underlying22
  have hmk : ∀ w : World, (Instr.makeSlice 22 (.int .i64 0) (.int .i64 0)).run Try.prog w = .ok (.slice (some ⟨w.heap.size, 0, none⟩) 0 0) (w.alloc (.cells (madeCells #[.int .u8 0] 0) 5)) := made 0 (by omega)
  go_enter Try.func7, Try.ntmps7
  go_wp2
  refine wp_loop_rounds 1 ?_
  rw [rounds_succ]
  go_wp2
  go_ret
  exact ⟨rfl, (Below.refl _ _).alloc (Nat.le_refl _) _, by simp⟩
end Go.Proofs.Qxb6617393a.Vex
