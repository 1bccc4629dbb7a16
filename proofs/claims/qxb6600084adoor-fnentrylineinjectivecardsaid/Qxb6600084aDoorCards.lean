/-
  DERIVED. GIVEN WITH THE SEED: THE CARDS: each row of Qxb6600084aDoorRows.lean that lists a variable, with what it lists TIED to the program's text (the seventh form; the later family's looks); each row that meets fmt, with fmt's text TOLD by the authors' own Lean function (tested against real Go, not proved from fmt's source: count such statements apart). THE CARD IS WHAT COUNTS. Prove the row's statement (the work); the ties are given (Qxb6600084aDoorTie.lean); close each card by the builder's one call (the guide's Derived/Test/ToyasCard.lean, 'card_holds'). Laid BY PROGRAM, IN A SANDBOX (cutbox-door.mjs). By AI agents, Wed Nov 11 2026. No macro, syntax, notation, axiom, sorry.
-/
import Derived.Test.Qxb6600084aDoorRows
import GoSem.ClaimSeven
namespace Go.Proofs.Qxb6600084aDoor
namespace Rows

/-- THE TIED CARD OF 'zzlaws_seal_b1.FnAppendFormExtendsDst'. -/
def fnAppendFormExtendsDstCard : Claim7 := { stood := { row := fnAppendFormExtendsDstRow, standIns := [], harness := (true, "d747367433496cbe619515fc38769ce06e617cb099769b98819ec8826c661355"), looks := false }, kinds := [], alts := [], laidByText := true, laidKinds := [.data, .data, .data], laidTests := true, laidLooks := .later }
def FnAppendFormExtendsDstCardSaid : Prop := Claim7.holds Tryd.pinned (.plain (OpenSpec.ofChange fnAppendFormExtendsDstSpec)) fnAppendFormExtendsDstCard

/-- THE TIED CARD OF 'zzlaws_seal_b1.FnAppendFormUnsignedIgnoresSignature'. -/
def fnAppendFormUnsignedIgnoresSignatureCard : Claim7 := { stood := { row := fnAppendFormUnsignedIgnoresSignatureRow, standIns := [], harness := (true, "d747367433496cbe619515fc38769ce06e617cb099769b98819ec8826c661355"), looks := false }, kinds := [], alts := [], laidByText := true, laidKinds := [.data, .data, .data], laidTests := true, laidLooks := .later }
def FnAppendFormUnsignedIgnoresSignatureCardSaid : Prop := Claim7.holds Tryd.pinned (.plain (OpenSpec.ofChange fnAppendFormUnsignedIgnoresSignatureSpec)) fnAppendFormUnsignedIgnoresSignatureCard

/-- THE TIED CARD OF 'zzlaws_seal_b1.FnAppendFormInjective'. -/
def fnAppendFormInjectiveCard : Claim7 := { stood := { row := fnAppendFormInjectiveRow, standIns := [], harness := (true, "d747367433496cbe619515fc38769ce06e617cb099769b98819ec8826c661355"), looks := false }, kinds := [], alts := [], laidByText := true, laidKinds := [.data, .data, .data], laidTests := true, laidLooks := .later }
def FnAppendFormInjectiveCardSaid : Prop := Claim7.holds Tryd.pinned (.plain (OpenSpec.ofChange fnAppendFormInjectiveSpec)) fnAppendFormInjectiveCard

/-- THE TIED CARD OF 'zzlaws_seal_b1.FnEntryLineIsOneLine'. -/
def fnEntryLineIsOneLineCard : Claim7 := { stood := { row := fnEntryLineIsOneLineRow, standIns := [], harness := (true, "d747367433496cbe619515fc38769ce06e617cb099769b98819ec8826c661355"), looks := false }, kinds := [], alts := [], laidByText := true, laidKinds := [.data, .data, .data], laidTests := true, laidLooks := .later }
def FnEntryLineIsOneLineCardSaid : Prop := Claim7.holds Tryd.pinned (.plain (OpenSpec.ofChange fnEntryLineIsOneLineSpec)) fnEntryLineIsOneLineCard

/-- THE TIED CARD OF 'zzlaws_seal_b1.FnEntryLineInjective'. -/
def fnEntryLineInjectiveCard : Claim7 := { stood := { row := fnEntryLineInjectiveRow, standIns := [], harness := (true, "d747367433496cbe619515fc38769ce06e617cb099769b98819ec8826c661355"), looks := false }, kinds := [], alts := [], laidByText := true, laidKinds := [.data, .data, .data], laidTests := true, laidLooks := .later }
def FnEntryLineInjectiveCardSaid : Prop := Claim7.holds Tryd.pinned (.plain (OpenSpec.ofChange fnEntryLineInjectiveSpec)) fnEntryLineInjectiveCard
end Rows
end Go.Proofs.Qxb6600084aDoor
