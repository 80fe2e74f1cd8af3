/-
  DERIVED. GIVEN WITH THE SEED: THE CARDS: each row of Qxb6603783aDoorRows.lean that lists a variable, with what it lists TIED to the program's text (the seventh form; the later family's looks); each row that meets fmt, with fmt's text TOLD by the authors' own Lean function (tested against real Go, not proved from fmt's source: count such statements apart). THE CARD IS WHAT COUNTS. Prove the row's statement (the work); the ties are given (Qxb6603783aDoorTie.lean); close each card by the builder's one call (the guide's Derived/Test/ToyasCard.lean, 'card_holds'). Laid BY PROGRAM, IN A SANDBOX (cutbox-door.mjs). By AI agents, Wed Nov 11 2026. No macro, syntax, notation, axiom, sorry.
-/
import Derived.Test.Qxb6603783aDoorRows
import GoSem.ClaimSeven
namespace Go.Proofs.Qxb6603783aDoor
namespace Rows

/-- THE TIED CARD OF 'zzlaws_internal_doc_b1.FnDocAppendFieldsReadBack'. -/
def fnDocAppendFieldsReadBackCard : Claim7 := { stood := { row := fnDocAppendFieldsReadBackRow, standIns := [], harness := (true, "6e9bd5171a676da15609e35eff8e427c81af6a69cb75d70eff8ae4a854d264b7"), looks := true }, kinds := [], alts := [], laidByText := true, laidKinds := [.data, .data, .data, .sentinel, .sentinel], laidTests := true, laidLooks := .later }
def FnDocAppendFieldsReadBackCardSaid : Prop := Claim7.holds Tryd.pinned (.plain (OpenSpec.ofChange fnDocAppendFieldsReadBackSpec)) fnDocAppendFieldsReadBackCard

/-- THE TIED CARD OF 'zzlaws_internal_doc_b1.FnDocCutNumberSuffixWhole'. -/
def fnDocCutNumberSuffixWholeCard : Claim7 := { stood := { row := fnDocCutNumberSuffixWholeRow, standIns := [], harness := (true, "6e9bd5171a676da15609e35eff8e427c81af6a69cb75d70eff8ae4a854d264b7"), looks := true }, kinds := [], alts := [], laidByText := true, laidKinds := [.data, .data, .data, .sentinel, .sentinel], laidTests := true, laidLooks := .later }
def FnDocCutNumberSuffixWholeCardSaid : Prop := Claim7.holds Tryd.pinned (.plain (OpenSpec.ofChange fnDocCutNumberSuffixWholeSpec)) fnDocCutNumberSuffixWholeCard

/-- THE TIED CARD OF 'zzlaws_internal_doc_b1.FnDocCutNumberSuffixRoundTrip'. -/
def fnDocCutNumberSuffixRoundTripCard : Claim7 := { stood := { row := fnDocCutNumberSuffixRoundTripRow, standIns := [], harness := (true, "6e9bd5171a676da15609e35eff8e427c81af6a69cb75d70eff8ae4a854d264b7"), looks := true }, kinds := [], alts := [], laidByText := true, laidKinds := [.data, .data, .data, .sentinel, .sentinel], laidTests := true, laidLooks := .later }
def FnDocCutNumberSuffixRoundTripCardSaid : Prop := Claim7.holds Tryd.pinned (.plain (OpenSpec.ofChange fnDocCutNumberSuffixRoundTripSpec)) fnDocCutNumberSuffixRoundTripCard
end Rows
end Go.Proofs.Qxb6603783aDoor
