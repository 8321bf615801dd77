/-
  DERIVED. GIVEN WITH THE SEED: THE CARDS: each row of Qxb6602091aDoorRows.lean that lists a variable, with what it lists TIED to the program's text (the seventh form; the later family's looks); each row that meets fmt, with fmt's text TOLD by the authors' own Lean function (tested against real Go, not proved from fmt's source: count such statements apart). THE CARD IS WHAT COUNTS. Prove the row's statement (the work); the ties are given (Qxb6602091aDoorTie.lean); close each card by the builder's one call (the guide's Derived/Test/ToyasCard.lean, 'card_holds'). Laid BY PROGRAM, IN A SANDBOX (cutbox-door.mjs). By AI agents, Wed Nov 11 2026. No macro, syntax, notation, axiom, sorry.
-/
import Derived.Test.Qxb6602091aDoorRows
import GoSem.ClaimSeven
namespace Go.Proofs.Qxb6602091aDoor
namespace Rows

/-- THE TIED CARD OF 'zzlaws_root_b1.FnInputTypeStringRoundTrip'. -/
def fnInputTypeStringRoundTripCard : Claim7 := { stood := { row := fnInputTypeStringRoundTripRow, standIns := [], harness := (true, "eb6cce178d5bc81c4aef3afd6ae4fb872dcbf8f33d2dc305c576b376f268f9cd"), looks := false }, kinds := [], alts := [], laidByText := true, laidKinds := [.data, .data, .data], laidTests := true, laidLooks := .later }
def FnInputTypeStringRoundTripCardSaid : Prop := Claim7.holds Tryd.pinned (.plain (OpenSpec.ofChange fnInputTypeStringRoundTripSpec)) fnInputTypeStringRoundTripCard

/-- THE TIED CARD OF 'zzlaws_root_b1.FnInputTypeStringInjective'. -/
def fnInputTypeStringInjectiveCard : Claim7 := { stood := { row := fnInputTypeStringInjectiveRow, standIns := [], harness := (true, "eb6cce178d5bc81c4aef3afd6ae4fb872dcbf8f33d2dc305c576b376f268f9cd"), looks := false }, kinds := [], alts := [], laidByText := true, laidKinds := [.data, .data, .data], laidTests := true, laidLooks := .later }
def FnInputTypeStringInjectiveCardSaid : Prop := Claim7.holds Tryd.pinned (.plain (OpenSpec.ofChange fnInputTypeStringInjectiveSpec)) fnInputTypeStringInjectiveCard

/-- THE TIED CARD OF 'zzlaws_root_b1.FnQuoteLiteralRoundTrip'. -/
def fnQuoteLiteralRoundTripCard : Claim7 := { stood := { row := fnQuoteLiteralRoundTripRow, standIns := [], harness := (true, "eb6cce178d5bc81c4aef3afd6ae4fb872dcbf8f33d2dc305c576b376f268f9cd"), looks := false }, kinds := [], alts := [], laidByText := true, laidKinds := [.data, .pinned], laidTests := true, laidLooks := .later }
def FnQuoteLiteralRoundTripCardSaid : Prop := Claim7.holds Tryd.pinned (.plain (OpenSpec.ofChange fnQuoteLiteralRoundTripSpec)) fnQuoteLiteralRoundTripCard

/-- THE TIED CARD OF 'zzlaws_root_b1.FnQuoteLiteralConcat'. -/
def fnQuoteLiteralConcatCard : Claim7 := { stood := { row := fnQuoteLiteralConcatRow, standIns := [], harness := (true, "eb6cce178d5bc81c4aef3afd6ae4fb872dcbf8f33d2dc305c576b376f268f9cd"), looks := false }, kinds := [], alts := [], laidByText := true, laidKinds := [.data, .pinned], laidTests := true, laidLooks := .later }
def FnQuoteLiteralConcatCardSaid : Prop := Claim7.holds Tryd.pinned (.plain (OpenSpec.ofChange fnQuoteLiteralConcatSpec)) fnQuoteLiteralConcatCard
end Rows
end Go.Proofs.Qxb6602091aDoor
