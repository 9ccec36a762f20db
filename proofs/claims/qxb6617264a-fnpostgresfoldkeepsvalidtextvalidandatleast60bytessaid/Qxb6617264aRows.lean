/-
  No cell of these rows narrows 'for every input' (looked for: loops, veiled, ifaces, maps, wideKeys, modest, calm, conditions, laid).
  DERIVED. THE GIVEN ROWS OF THIS SEAT. 3 by the template 'for every input the law returns true; each argument reads behind the call as it read before'; 0 by the template 'total and deterministic' (their statements: Qxb6617264aTotals.lean).
  GIVEN WITH THE SEED: the statements are not yours to turn. If you find one false, say at which input.
  Laid BY PROGRAM, IN A SANDBOX (cutbox-rows.mjs): the forced cells as the released guide's own fill.sh prints them over the translation ef76725f50c30bb6… (all of the seat's roots in one cut). By AI agents, Wed Nov 11 2026. No macro, syntax, notation, axiom, sorry.
-/
import Derived.Test.Qxb6617264aChecked
import GoSem.Claim
import GoSem.ClaimJoined
import GoSem.ClaimMapViews
import Derived.JoinedTies
import Derived.KernelRfl
namespace Go.Proofs.Qxb6617264a
/- THE CELL 'sum', in the pinned program and in every row, IS THE sha256 OF THE DUMP (.gsa) THAT Qxb6617264aProg.lean LOADS. Nothing in Lean hashes anything: it is a label: what it is worth is what the hold of that sum in a sandbox is worth. -/
noncomputable def Try.pinned : Pinned := { name := "qxb6617264a", sum := "ef76725f50c30bb6df6affdadce0e4784657c2466698b5e0695f13b60f3349ca", checked := Try.checked }
namespace Rows
def none {H : Type} : Left H := { results := [], args := [] }

/-- 'zzlaws_root_b1.FnPostgresFoldIsTheLongestPrefixThatSplitsNoCharacter': WHATEVER THE INPUT: true; the input reads as it did. -/
def fnPostgresFoldIsTheLongestPrefixThatSplitsNoCharacterSpec : ChangeSpec := { name := "fnPostgresFoldIsTheLongestPrefixThatSplitsNoCharacter", fn := fun _ => fun
  | [d] => { results := [.lit (.bool true)], args := [d] }
  | _ => none }
def fnPostgresFoldIsTheLongestPrefixThatSplitsNoCharacterRow : OpenClaim := { program := "qxb6617264a", sum := "ef76725f50c30bb6df6affdadce0e4784657c2466698b5e0695f13b60f3349ca", func := "example.com/latchet/latchet/zzlaws_root_b1.FnPostgresFoldIsTheLongestPrefixThatSplitsNoCharacter", spec := "fnPostgresFoldIsTheLongestPrefixThatSplitsNoCharacter", apart := false }
def FnPostgresFoldIsTheLongestPrefixThatSplitsNoCharacterSaid : Prop := fnPostgresFoldIsTheLongestPrefixThatSplitsNoCharacterRow.holds Try.pinned (OpenSpec.ofChange fnPostgresFoldIsTheLongestPrefixThatSplitsNoCharacterSpec)

/-- ITS FALSE NEIGHBOUR: 'it returns false'. Refute it at one input. -/
def fnPostgresFoldIsTheLongestPrefixThatSplitsNoCharacterWrong : ChangeSpec := { name := "fnPostgresFoldIsTheLongestPrefixThatSplitsNoCharacter", fn := fun _ => fun
  | [d] => { results := [.lit (.bool false)], args := [d] }
  | _ => none }
def FnPostgresFoldIsTheLongestPrefixThatSplitsNoCharacterWrongFalsely : Prop := fnPostgresFoldIsTheLongestPrefixThatSplitsNoCharacterRow.holds Try.pinned (OpenSpec.ofChange fnPostgresFoldIsTheLongestPrefixThatSplitsNoCharacterWrong)

/-- 'zzlaws_root_b1.FnPostgresFoldSeesOnlyTheFirst64Bytes': WHATEVER THE INPUT: true; the input reads as it did. -/
def fnPostgresFoldSeesOnlyTheFirst64BytesSpec : ChangeSpec := { name := "fnPostgresFoldSeesOnlyTheFirst64Bytes", fn := fun _ => fun
  | [d1, d2] => { results := [.lit (.bool true)], args := [d1, d2] }
  | _ => none }
def fnPostgresFoldSeesOnlyTheFirst64BytesRow : OpenClaim := { program := "qxb6617264a", sum := "ef76725f50c30bb6df6affdadce0e4784657c2466698b5e0695f13b60f3349ca", func := "example.com/latchet/latchet/zzlaws_root_b1.FnPostgresFoldSeesOnlyTheFirst64Bytes", spec := "fnPostgresFoldSeesOnlyTheFirst64Bytes", apart := false }
def FnPostgresFoldSeesOnlyTheFirst64BytesSaid : Prop := fnPostgresFoldSeesOnlyTheFirst64BytesRow.holds Try.pinned (OpenSpec.ofChange fnPostgresFoldSeesOnlyTheFirst64BytesSpec)

/-- ITS FALSE NEIGHBOUR: 'it returns false'. Refute it at one input. -/
def fnPostgresFoldSeesOnlyTheFirst64BytesWrong : ChangeSpec := { name := "fnPostgresFoldSeesOnlyTheFirst64Bytes", fn := fun _ => fun
  | [d1, d2] => { results := [.lit (.bool false)], args := [d1, d2] }
  | _ => none }
def FnPostgresFoldSeesOnlyTheFirst64BytesWrongFalsely : Prop := fnPostgresFoldSeesOnlyTheFirst64BytesRow.holds Try.pinned (OpenSpec.ofChange fnPostgresFoldSeesOnlyTheFirst64BytesWrong)

/-- 'zzlaws_root_b1.FnPostgresFoldKeepsValidTextValidAndAtLeast60Bytes': WHATEVER THE INPUT: true; the input reads as it did. -/
def fnPostgresFoldKeepsValidTextValidAndAtLeast60BytesSpec : ChangeSpec := { name := "fnPostgresFoldKeepsValidTextValidAndAtLeast60Bytes", fn := fun _ => fun
  | [d] => { results := [.lit (.bool true)], args := [d] }
  | _ => none }
def fnPostgresFoldKeepsValidTextValidAndAtLeast60BytesRow : OpenClaim := { program := "qxb6617264a", sum := "ef76725f50c30bb6df6affdadce0e4784657c2466698b5e0695f13b60f3349ca", func := "example.com/latchet/latchet/zzlaws_root_b1.FnPostgresFoldKeepsValidTextValidAndAtLeast60Bytes", spec := "fnPostgresFoldKeepsValidTextValidAndAtLeast60Bytes", apart := false }
def FnPostgresFoldKeepsValidTextValidAndAtLeast60BytesSaid : Prop := fnPostgresFoldKeepsValidTextValidAndAtLeast60BytesRow.holds Try.pinned (OpenSpec.ofChange fnPostgresFoldKeepsValidTextValidAndAtLeast60BytesSpec)

/-- ITS FALSE NEIGHBOUR: 'it returns false'. Refute it at one input. -/
def fnPostgresFoldKeepsValidTextValidAndAtLeast60BytesWrong : ChangeSpec := { name := "fnPostgresFoldKeepsValidTextValidAndAtLeast60Bytes", fn := fun _ => fun
  | [d] => { results := [.lit (.bool false)], args := [d] }
  | _ => none }
def FnPostgresFoldKeepsValidTextValidAndAtLeast60BytesWrongFalsely : Prop := fnPostgresFoldKeepsValidTextValidAndAtLeast60BytesRow.holds Try.pinned (OpenSpec.ofChange fnPostgresFoldKeepsValidTextValidAndAtLeast60BytesWrong)

end Rows
end Go.Proofs.Qxb6617264a
