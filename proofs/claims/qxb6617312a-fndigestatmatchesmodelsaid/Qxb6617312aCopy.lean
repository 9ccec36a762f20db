import Derived.Test.Qxb6617312aHex
import Derived.WalkSpells
import Derived.Laws.CopyOwn
import Derived.Deep.OwnRows
namespace Go.Proofs.Qxb6617312a.Hex
open Go.ChangeShapes Go.WideShapes Go.ChangeAt Go.RowKit

theorem info5 : (Try.prog.info? 5).map (fun i => (i.zero, i.size, i.bytes)) = some (some (.int .u8 0), 1, 1) := by kernel_rfl
theorem size5 : (Try.prog.info? 5).map (·.size) = some 1 := by kernel_rfl

/-- 'zzc := make([]byte, len(b)); copy(zzc, b)': THE MAKE -/
theorem made (n : Nat) (hn : n ≤ 1048576) (w : World) :
    (Instr.makeSlice 22 (.int .i64 (n : Int)) (.int .i64 (n : Int))).run Try.prog w = .ok (.slice (some ⟨w.heap.size, 0, none⟩) n n) (w.alloc (.cells (madeCells #[.int .u8 0] n) 5)) :=
  run_make_row' 22 5 (.int .u8 0) 1 Try.underlying22 info5 rfl .i64 .i64 n (by omega) (by omega) w

/-- .. AND THE COPY: the new row holds what the old one held; nothing that was there has turned -/
theorem copied (x : Addr) (n cap : Nat) (f : Nat → Int) (w : World)
    (hcell : ∀ j, j < n → w.cell? (x.add j) = some (.int .u8 (f j))) :
    ∃ W2, (Builtin.copy_ #[22, 22] 3 #[.slice (some ⟨w.heap.size, 0, none⟩) n n, .slice (some x) n cap]).run Try.prog (w.alloc (.cells (madeCells #[.int .u8 0] n) 5)) = .ok (.int .i64 (n : Int)) W2 ∧
      (∀ j, j < n → W2.cell? ⟨w.heap.size, j, none⟩ = some (.int .u8 (f j))) ∧ Below w.heap.size w W2 := by
  obtain ⟨cs, hcs⟩ : ∃ cs : List Value, cs = (List.range n).map fun j => Value.int .u8 (f j) := ⟨_, rfl⟩
  have hlen : cs.length = n := by rw [hcs]; simp
  have hg : (w.alloc (.cells (madeCells #[.int .u8 0] n) 5)).heap[w.heap.size]? = some (.cells (madeCells #[.int .u8 0] n) 5 (0, 0)) := by
    show (w.heap.push _)[w.heap.size]? = _
    simp
  have hb : Below w.heap.size w (w.alloc (.cells (madeCells #[.int .u8 0] n) 5)) := (Below.refl _ _).alloc (Nat.le_refl _) _
  have hsrc : ∀ j v, cs[j]? = some v → (w.alloc (.cells (madeCells #[.int .u8 0] n) 5)).cell? (x.add j) = some v := by
    intro j v hv
    have hj : j < n := by
      have := List.getElem?_eq_some_iff.1 hv
      obtain ⟨h, _⟩ := this
      omega
    have e : v = .int .u8 (f j) := by
      rw [hcs] at hv
      simp [hj] at hv
      exact hv.symm
    rw [e]
    exact cell_later hb (hcell j hj)
  have h := run_copy_row (P := Try.prog) (w.alloc (.cells (madeCells #[.int .u8 0] n) 5)) 22 22 3 5 w.heap.size 0 n n x n cap (madeCells #[.int .u8 0] n) 5 cs Try.underlying22 size5 hg
    (by rw [hlen]; exact (Nat.min_self n).symm) hsrc (by rw [hlen, size_madeCells]; omega) (by rw [hcs]; intro v hv; simp at hv; obtain ⟨j, _, rfl⟩ := hv; rfl)
  rw [hlen] at h
  refine ⟨_, h, fun j hj => ?_, below_setRow hb (Nat.le_refl _) _⟩
  rw [cell_setRow_same _ _ _ _ _ _ _ hg]
  have hd : (madeCells #[Value.int .u8 0] n).toList.drop (0 + n) = [] := by
    rw [List.drop_eq_nil_iff]; simp [size_madeCells]
  rw [hd]
  simp [hcs, hj]
end Go.Proofs.Qxb6617312a.Hex
