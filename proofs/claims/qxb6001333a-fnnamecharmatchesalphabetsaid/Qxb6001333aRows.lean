/-
  No cell of these rows narrows 'for every input' (looked for: loops, veiled, ifaces, maps, wideKeys, modest, calm, conditions, laid).
  DERIVED. THE GIVEN ROWS OF THIS SEAT. 3 by the template 'for every input the law returns true; each argument reads behind the call as it read before'; 0 by the template 'total and deterministic' (their statements: Qxb6001333aTotals.lean).
  GIVEN WITH THE SEED: the statements are not yours to turn. If you find one false, say at which input.
  Laid BY PROGRAM, IN A SANDBOX (cutbox-rows.mjs): the forced cells as the released guide's own fill.sh prints them over the translation e899e3f29530ddee… (all of the seat's roots in one cut). By AI agents, Wed Nov 11 2026. No macro, syntax, notation, axiom, sorry.
-/
import Derived.Test.Qxb6001333aChecked
import GoSem.Claim
import GoSem.ClaimJoined
import GoSem.ClaimMapViews
import Derived.JoinedTies
import Derived.KernelRfl
namespace Go.Proofs.Qxb6001333a
/- THE CELL 'sum', in the pinned program and in every row, IS THE sha256 OF THE DUMP (.gsa) THAT Qxb6001333aProg.lean LOADS. Nothing in Lean hashes anything: it is a label: what it is worth is what the hold of that sum in a sandbox is worth. -/
noncomputable def Try.pinned : Pinned := { name := "qxb6001333a", sum := "e899e3f29530ddee52165816f10cc0258c27c1c300f481139c3a601f7ab470ac", checked := Try.checked }
namespace Rows
def none {H : Type} : Left H := { results := [], args := [] }

/-- 'zzlaws_internal_engine_b1.FnNameCharMatchesAlphabet': WHATEVER THE INPUT: true; the input reads as it did. -/
def fnNameCharMatchesAlphabetSpec : ChangeSpec := { name := "fnNameCharMatchesAlphabet", fn := fun _ => fun
  | [d] => { results := [.lit (.bool true)], args := [d] }
  | _ => none }
def fnNameCharMatchesAlphabetRow : OpenClaim := { program := "qxb6001333a", sum := "e899e3f29530ddee52165816f10cc0258c27c1c300f481139c3a601f7ab470ac", func := "example.com/waybill/waybill/zzlaws_internal_engine_b1.FnNameCharMatchesAlphabet", spec := "fnNameCharMatchesAlphabet", apart := false }
def FnNameCharMatchesAlphabetSaid : Prop := fnNameCharMatchesAlphabetRow.holds Try.pinned (OpenSpec.ofChange fnNameCharMatchesAlphabetSpec)

/-- ITS FALSE NEIGHBOUR: 'it returns false'. Refute it at one input. -/
def fnNameCharMatchesAlphabetWrong : ChangeSpec := { name := "fnNameCharMatchesAlphabet", fn := fun _ => fun
  | [d] => { results := [.lit (.bool false)], args := [d] }
  | _ => none }
def FnNameCharMatchesAlphabetWrongFalsely : Prop := fnNameCharMatchesAlphabetRow.holds Try.pinned (OpenSpec.ofChange fnNameCharMatchesAlphabetWrong)

/-- 'zzlaws_internal_engine_b1.FnNameCharCaseBlind': WHATEVER THE INPUT: true; the input reads as it did. -/
def fnNameCharCaseBlindSpec : ChangeSpec := { name := "fnNameCharCaseBlind", fn := fun _ => fun
  | [d] => { results := [.lit (.bool true)], args := [d] }
  | _ => none }
def fnNameCharCaseBlindRow : OpenClaim := { program := "qxb6001333a", sum := "e899e3f29530ddee52165816f10cc0258c27c1c300f481139c3a601f7ab470ac", func := "example.com/waybill/waybill/zzlaws_internal_engine_b1.FnNameCharCaseBlind", spec := "fnNameCharCaseBlind", apart := false }
def FnNameCharCaseBlindSaid : Prop := fnNameCharCaseBlindRow.holds Try.pinned (OpenSpec.ofChange fnNameCharCaseBlindSpec)

/-- ITS FALSE NEIGHBOUR: 'it returns false'. Refute it at one input. -/
def fnNameCharCaseBlindWrong : ChangeSpec := { name := "fnNameCharCaseBlind", fn := fun _ => fun
  | [d] => { results := [.lit (.bool false)], args := [d] }
  | _ => none }
def FnNameCharCaseBlindWrongFalsely : Prop := fnNameCharCaseBlindRow.holds Try.pinned (OpenSpec.ofChange fnNameCharCaseBlindWrong)

/-- 'zzlaws_internal_engine_b1.FnNameCharRefusesNonASCII': WHATEVER THE INPUT: true; the input reads as it did. -/
def fnNameCharRefusesNonASCIISpec : ChangeSpec := { name := "fnNameCharRefusesNonASCII", fn := fun _ => fun
  | [d] => { results := [.lit (.bool true)], args := [d] }
  | _ => none }
def fnNameCharRefusesNonASCIIRow : OpenClaim := { program := "qxb6001333a", sum := "e899e3f29530ddee52165816f10cc0258c27c1c300f481139c3a601f7ab470ac", func := "example.com/waybill/waybill/zzlaws_internal_engine_b1.FnNameCharRefusesNonASCII", spec := "fnNameCharRefusesNonASCII", apart := false }
def FnNameCharRefusesNonASCIISaid : Prop := fnNameCharRefusesNonASCIIRow.holds Try.pinned (OpenSpec.ofChange fnNameCharRefusesNonASCIISpec)

/-- ITS FALSE NEIGHBOUR: 'it returns false'. Refute it at one input. -/
def fnNameCharRefusesNonASCIIWrong : ChangeSpec := { name := "fnNameCharRefusesNonASCII", fn := fun _ => fun
  | [d] => { results := [.lit (.bool false)], args := [d] }
  | _ => none }
def FnNameCharRefusesNonASCIIWrongFalsely : Prop := fnNameCharRefusesNonASCIIRow.holds Try.pinned (OpenSpec.ofChange fnNameCharRefusesNonASCIIWrong)

end Rows
end Go.Proofs.Qxb6001333a
