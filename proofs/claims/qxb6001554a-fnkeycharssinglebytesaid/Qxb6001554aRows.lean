/-
  No cell of these rows narrows 'for every input' (looked for: loops, veiled, ifaces, maps, wideKeys, modest, calm, conditions, laid).
  DERIVED. THE GIVEN ROWS OF THIS SEAT. 3 by the template 'for every input the law returns true; each argument reads behind the call as it read before'; 0 by the template 'total and deterministic' (their statements: Qxb6001554aTotals.lean).
  GIVEN WITH THE SEED: the statements are not yours to turn. If you find one false, say at which input.
  Laid BY PROGRAM, IN A SANDBOX (cutbox-rows.mjs): the forced cells as the released guide's own fill.sh prints them over the translation 86cc9af7229d9eeb… (all of the seat's roots in one cut). By AI agents, Wed Nov 11 2026. No macro, syntax, notation, axiom, sorry.
-/
import Derived.Test.Qxb6001554aChecked
import GoSem.Claim
import GoSem.ClaimJoined
import GoSem.ClaimMapViews
import Derived.JoinedTies
import Derived.KernelRfl
namespace Go.Proofs.Qxb6001554a
/- THE CELL 'sum', in the pinned program and in every row, IS THE sha256 OF THE DUMP (.gsa) THAT Qxb6001554aProg.lean LOADS. Nothing in Lean hashes anything: it is a label: what it is worth is what the hold of that sum in a sandbox is worth. -/
noncomputable def Try.pinned : Pinned := { name := "qxb6001554a", sum := "86cc9af7229d9eeb3de99997e6dc33bf6706cb3b62d598d996853e12a0ea1d24", checked := Try.checked }
namespace Rows
def none {H : Type} : Left H := { results := [], args := [] }

/-- 'zzlaws_internal_ldif_b1.FnKeycharsSingleByte': WHATEVER THE INPUT: true; the input reads as it did. -/
def fnKeycharsSingleByteSpec : ChangeSpec := { name := "fnKeycharsSingleByte", fn := fun _ => fun
  | [d] => { results := [.lit (.bool true)], args := [d] }
  | _ => none }
def fnKeycharsSingleByteRow : OpenClaim := { program := "qxb6001554a", sum := "86cc9af7229d9eeb3de99997e6dc33bf6706cb3b62d598d996853e12a0ea1d24", func := "example.com/strict-privilege/strict-privilege/zzlaws_internal_ldif_b1.FnKeycharsSingleByte", spec := "fnKeycharsSingleByte", apart := false }
def FnKeycharsSingleByteSaid : Prop := fnKeycharsSingleByteRow.holds Try.pinned (OpenSpec.ofChange fnKeycharsSingleByteSpec)

/-- ITS FALSE NEIGHBOUR: 'it returns false'. Refute it at one input. -/
def fnKeycharsSingleByteWrong : ChangeSpec := { name := "fnKeycharsSingleByte", fn := fun _ => fun
  | [d] => { results := [.lit (.bool false)], args := [d] }
  | _ => none }
def FnKeycharsSingleByteWrongFalsely : Prop := fnKeycharsSingleByteRow.holds Try.pinned (OpenSpec.ofChange fnKeycharsSingleByteWrong)

/-- 'zzlaws_internal_ldif_b1.FnKeycharsConcat': WHATEVER THE INPUT: true; the input reads as it did. -/
def fnKeycharsConcatSpec : ChangeSpec := { name := "fnKeycharsConcat", fn := fun _ => fun
  | [d1, d2] => { results := [.lit (.bool true)], args := [d1, d2] }
  | _ => none }
def fnKeycharsConcatRow : OpenClaim := { program := "qxb6001554a", sum := "86cc9af7229d9eeb3de99997e6dc33bf6706cb3b62d598d996853e12a0ea1d24", func := "example.com/strict-privilege/strict-privilege/zzlaws_internal_ldif_b1.FnKeycharsConcat", spec := "fnKeycharsConcat", apart := false }
def FnKeycharsConcatSaid : Prop := fnKeycharsConcatRow.holds Try.pinned (OpenSpec.ofChange fnKeycharsConcatSpec)

/-- ITS FALSE NEIGHBOUR: 'it returns false'. Refute it at one input. -/
def fnKeycharsConcatWrong : ChangeSpec := { name := "fnKeycharsConcat", fn := fun _ => fun
  | [d1, d2] => { results := [.lit (.bool false)], args := [d1, d2] }
  | _ => none }
def FnKeycharsConcatWrongFalsely : Prop := fnKeycharsConcatRow.holds Try.pinned (OpenSpec.ofChange fnKeycharsConcatWrong)

/-- 'zzlaws_internal_ldif_b1.FnKeycharsCaseBlind': WHATEVER THE INPUT: true; the input reads as it did. -/
def fnKeycharsCaseBlindSpec : ChangeSpec := { name := "fnKeycharsCaseBlind", fn := fun _ => fun
  | [d] => { results := [.lit (.bool true)], args := [d] }
  | _ => none }
def fnKeycharsCaseBlindRow : OpenClaim := { program := "qxb6001554a", sum := "86cc9af7229d9eeb3de99997e6dc33bf6706cb3b62d598d996853e12a0ea1d24", func := "example.com/strict-privilege/strict-privilege/zzlaws_internal_ldif_b1.FnKeycharsCaseBlind", spec := "fnKeycharsCaseBlind", apart := false }
def FnKeycharsCaseBlindSaid : Prop := fnKeycharsCaseBlindRow.holds Try.pinned (OpenSpec.ofChange fnKeycharsCaseBlindSpec)

/-- ITS FALSE NEIGHBOUR: 'it returns false'. Refute it at one input. -/
def fnKeycharsCaseBlindWrong : ChangeSpec := { name := "fnKeycharsCaseBlind", fn := fun _ => fun
  | [d] => { results := [.lit (.bool false)], args := [d] }
  | _ => none }
def FnKeycharsCaseBlindWrongFalsely : Prop := fnKeycharsCaseBlindRow.holds Try.pinned (OpenSpec.ofChange fnKeycharsCaseBlindWrong)

end Rows
end Go.Proofs.Qxb6001554a
