/-
  No cell of these rows narrows 'for every input' (looked for: loops, veiled, ifaces, maps, wideKeys, modest, calm, conditions, laid).
  DERIVED. THE GIVEN ROWS OF THIS SEAT. 3 by the template 'for every input the law returns true; each argument reads behind the call as it read before'; 0 by the template 'total and deterministic' (their statements: Qxb6617393aTotals.lean).
  GIVEN WITH THE SEED: the statements are not yours to turn. If you find one false, say at which input.
  Laid BY PROGRAM, IN A SANDBOX (cutbox-rows.mjs): the forced cells as the released guide's own fill.sh prints them over the translation d24aeca0bc2c7612… (all of the seat's roots in one cut). By AI agents, Wed Nov 11 2026. No macro, syntax, notation, axiom, sorry.
-/
import Derived.Test.Qxb6617393aChecked
import GoSem.Claim
import GoSem.ClaimJoined
import GoSem.ClaimMapViews
import Derived.JoinedTies
import Derived.KernelRfl
namespace Go.Proofs.Qxb6617393a
/- THE CELL 'sum', in the pinned program and in every row, IS THE sha256 OF THE DUMP (.gsa) THAT Qxb6617393aProg.lean LOADS. Nothing in Lean hashes anything: it is a label: what it is worth is what the hold of that sum in a sandbox is worth. -/
noncomputable def Try.pinned : Pinned := { name := "qxb6617393a", sum := "d24aeca0bc2c761267a212066a0ea4363e5fd0c54648020ffdc2bef0f445451a", checked := Try.checked }
namespace Rows
def none {H : Type} : Left H := { results := [], args := [] }

/-- 'zzlaws_disasm_b1.FnReadVEXSpec': WHATEVER THE INPUT: true; the input reads as it did. -/
def fnReadVEXSpecSpec : ChangeSpec := { name := "fnReadVEXSpec", fn := fun _ => fun
  | [d] => { results := [.lit (.bool true)], args := [d] }
  | _ => none }
def fnReadVEXSpecRow : OpenClaim := { program := "qxb6617393a", sum := "d24aeca0bc2c761267a212066a0ea4363e5fd0c54648020ffdc2bef0f445451a", func := "example.com/stallwise/stallwise/zzlaws_disasm_b1.FnReadVEXSpec", spec := "fnReadVEXSpec", apart := false }
def FnReadVEXSpecSaid : Prop := fnReadVEXSpecRow.holds Try.pinned (OpenSpec.ofChange fnReadVEXSpecSpec)

/-- ITS FALSE NEIGHBOUR: 'it returns false'. Refute it at one input. -/
def fnReadVEXSpecWrong : ChangeSpec := { name := "fnReadVEXSpec", fn := fun _ => fun
  | [d] => { results := [.lit (.bool false)], args := [d] }
  | _ => none }
def FnReadVEXSpecWrongFalsely : Prop := fnReadVEXSpecRow.holds Try.pinned (OpenSpec.ofChange fnReadVEXSpecWrong)

/-- 'zzlaws_disasm_b1.FnBeforeVEXShiftsReadVEX': WHATEVER THE INPUT: true; the input reads as it did. -/
def fnBeforeVEXShiftsReadVEXSpec : ChangeSpec := { name := "fnBeforeVEXShiftsReadVEX", fn := fun _ => fun
  | [d1, d2] => { results := [.lit (.bool true)], args := [d1, d2] }
  | _ => none }
def fnBeforeVEXShiftsReadVEXRow : OpenClaim := { program := "qxb6617393a", sum := "d24aeca0bc2c761267a212066a0ea4363e5fd0c54648020ffdc2bef0f445451a", func := "example.com/stallwise/stallwise/zzlaws_disasm_b1.FnBeforeVEXShiftsReadVEX", spec := "fnBeforeVEXShiftsReadVEX", apart := false }
def FnBeforeVEXShiftsReadVEXSaid : Prop := fnBeforeVEXShiftsReadVEXRow.holds Try.pinned (OpenSpec.ofChange fnBeforeVEXShiftsReadVEXSpec)

/-- ITS FALSE NEIGHBOUR: 'it returns false'. Refute it at one input. -/
def fnBeforeVEXShiftsReadVEXWrong : ChangeSpec := { name := "fnBeforeVEXShiftsReadVEX", fn := fun _ => fun
  | [d1, d2] => { results := [.lit (.bool false)], args := [d1, d2] }
  | _ => none }
def FnBeforeVEXShiftsReadVEXWrongFalsely : Prop := fnBeforeVEXShiftsReadVEXRow.holds Try.pinned (OpenSpec.ofChange fnBeforeVEXShiftsReadVEXWrong)

/-- 'zzlaws_disasm_b1.FnBareVEXAgreesWithReadVEX': WHATEVER THE INPUT: true; the input reads as it did. -/
def fnBareVEXAgreesWithReadVEXSpec : ChangeSpec := { name := "fnBareVEXAgreesWithReadVEX", fn := fun _ => fun
  | [d] => { results := [.lit (.bool true)], args := [d] }
  | _ => none }
def fnBareVEXAgreesWithReadVEXRow : OpenClaim := { program := "qxb6617393a", sum := "d24aeca0bc2c761267a212066a0ea4363e5fd0c54648020ffdc2bef0f445451a", func := "example.com/stallwise/stallwise/zzlaws_disasm_b1.FnBareVEXAgreesWithReadVEX", spec := "fnBareVEXAgreesWithReadVEX", apart := false }
def FnBareVEXAgreesWithReadVEXSaid : Prop := fnBareVEXAgreesWithReadVEXRow.holds Try.pinned (OpenSpec.ofChange fnBareVEXAgreesWithReadVEXSpec)

/-- ITS FALSE NEIGHBOUR: 'it returns false'. Refute it at one input. -/
def fnBareVEXAgreesWithReadVEXWrong : ChangeSpec := { name := "fnBareVEXAgreesWithReadVEX", fn := fun _ => fun
  | [d] => { results := [.lit (.bool false)], args := [d] }
  | _ => none }
def FnBareVEXAgreesWithReadVEXWrongFalsely : Prop := fnBareVEXAgreesWithReadVEXRow.holds Try.pinned (OpenSpec.ofChange fnBareVEXAgreesWithReadVEXWrong)

end Rows
end Go.Proofs.Qxb6617393a
