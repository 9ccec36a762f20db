/-
  No cell of these rows narrows 'for every input' (looked for: loops, veiled, ifaces, maps, wideKeys, modest, calm, conditions, laid).
  DERIVED. THE GIVEN ROWS OF THIS SEAT. 2 by the template 'for every input the law returns true; each argument reads behind the call as it read before'; 0 by the template 'total and deterministic' (their statements: Qxb6617312aTotals.lean).
  GIVEN WITH THE SEED: the statements are not yours to turn. If you find one false, say at which input.
  Laid BY PROGRAM, IN A SANDBOX (cutbox-rows.mjs): the forced cells as the released guide's own fill.sh prints them over the translation 225ea0c325f29ce6… (all of the seat's roots in one cut). By AI agents, Wed Nov 11 2026. No macro, syntax, notation, axiom, sorry.
-/
import Derived.Test.Qxb6617312aChecked
import GoSem.Claim
import GoSem.ClaimJoined
import GoSem.ClaimMapViews
import Derived.JoinedTies
import Derived.KernelRfl
namespace Go.Proofs.Qxb6617312a
/- THE CELL 'sum', in the pinned program and in every row, IS THE sha256 OF THE DUMP (.gsa) THAT Qxb6617312aProg.lean LOADS. Nothing in Lean hashes anything: it is a label: what it is worth is what the hold of that sum in a sandbox is worth. -/
noncomputable def Try.pinned : Pinned := { name := "qxb6617312a", sum := "225ea0c325f29ce6bc6b20db0256021bf85a8370f1a93fcd6e5e64bcd0b16306", checked := Try.checked }
namespace Rows
def none {H : Type} : Left H := { results := [], args := [] }

/-- 'zzlaws_pkg_imageref_b1.FnDigestAtMatchesModel': WHATEVER THE INPUT: true; the input reads as it did. -/
def fnDigestAtMatchesModelSpec : ChangeSpec := { name := "fnDigestAtMatchesModel", fn := fun _ => fun
  | [d1, d2, d3] => { results := [.lit (.bool true)], args := [d1, d2, d3] }
  | _ => none }
def fnDigestAtMatchesModelRow : OpenClaim := { program := "qxb6617312a", sum := "225ea0c325f29ce6bc6b20db0256021bf85a8370f1a93fcd6e5e64bcd0b16306", func := "example.com/downwind/downwind/zzlaws_pkg_imageref_b1.FnDigestAtMatchesModel", spec := "fnDigestAtMatchesModel", apart := false }
def FnDigestAtMatchesModelSaid : Prop := fnDigestAtMatchesModelRow.holds Try.pinned (OpenSpec.ofChange fnDigestAtMatchesModelSpec)

/-- ITS FALSE NEIGHBOUR: 'it returns false'. Refute it at one input. -/
def fnDigestAtMatchesModelWrong : ChangeSpec := { name := "fnDigestAtMatchesModel", fn := fun _ => fun
  | [d1, d2, d3] => { results := [.lit (.bool false)], args := [d1, d2, d3] }
  | _ => none }
def FnDigestAtMatchesModelWrongFalsely : Prop := fnDigestAtMatchesModelRow.holds Try.pinned (OpenSpec.ofChange fnDigestAtMatchesModelWrong)

/-- 'zzlaws_pkg_imageref_b1.FnIsHexCutAndDigits': WHATEVER THE INPUT: true; the input reads as it did. -/
def fnIsHexCutAndDigitsSpec : ChangeSpec := { name := "fnIsHexCutAndDigits", fn := fun _ => fun
  | [d1, d2] => { results := [.lit (.bool true)], args := [d1, d2] }
  | _ => none }
def fnIsHexCutAndDigitsRow : OpenClaim := { program := "qxb6617312a", sum := "225ea0c325f29ce6bc6b20db0256021bf85a8370f1a93fcd6e5e64bcd0b16306", func := "example.com/downwind/downwind/zzlaws_pkg_imageref_b1.FnIsHexCutAndDigits", spec := "fnIsHexCutAndDigits", apart := false }
def FnIsHexCutAndDigitsSaid : Prop := fnIsHexCutAndDigitsRow.holds Try.pinned (OpenSpec.ofChange fnIsHexCutAndDigitsSpec)

/-- ITS FALSE NEIGHBOUR: 'it returns false'. Refute it at one input. -/
def fnIsHexCutAndDigitsWrong : ChangeSpec := { name := "fnIsHexCutAndDigits", fn := fun _ => fun
  | [d1, d2] => { results := [.lit (.bool false)], args := [d1, d2] }
  | _ => none }
def FnIsHexCutAndDigitsWrongFalsely : Prop := fnIsHexCutAndDigitsRow.holds Try.pinned (OpenSpec.ofChange fnIsHexCutAndDigitsWrong)

end Rows
end Go.Proofs.Qxb6617312a
