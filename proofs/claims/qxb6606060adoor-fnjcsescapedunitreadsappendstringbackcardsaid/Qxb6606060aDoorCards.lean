/-
  DERIVED. GIVEN WITH THE SEED: THE CARDS: each row of Qxb6606060aDoorRows.lean that lists a variable, with what it lists TIED to the program's text (the seventh form; the later family's looks); each row that meets fmt, with fmt's text TOLD by the authors' own Lean function (tested against real Go, not proved from fmt's source: count such statements apart). THE CARD IS WHAT COUNTS. Prove the row's statement (the work); the ties are given (Qxb6606060aDoorTie.lean); close each card by the builder's one call (the guide's Derived/Test/ToyasCard.lean, 'card_holds'). Laid BY PROGRAM, IN A SANDBOX (cutbox-door.mjs). By AI agents, Wed Nov 11 2026. No macro, syntax, notation, axiom, sorry.
-/
import Derived.Test.Qxb6606060aDoorRows
import GoSem.ClaimSeven
namespace Go.Proofs.Qxb6606060aDoor
namespace Rows

/-- THE TIED CARD OF 'zzlaws_internal_jcs_b1.FnJcsEscapedUnitReadsAppendStringBack'. -/
def fnJcsEscapedUnitReadsAppendStringBackCard : Claim7 := { stood := { row := fnJcsEscapedUnitReadsAppendStringBackRow, standIns := [], harness := (true, "47689caa671f5c852d6974c7836a77b9b37bca7579079015aa8ab75bc7ec1924"), looks := true }, kinds := [], alts := [], laidByText := true, laidKinds := [.data, .data, .data, .sentinel, .sentinel], laidTests := true, laidLooks := .later }
def FnJcsEscapedUnitReadsAppendStringBackCardSaid : Prop := Claim7.holds Tryd.pinned (.plain (OpenSpec.ofChange fnJcsEscapedUnitReadsAppendStringBackSpec)) fnJcsEscapedUnitReadsAppendStringBackCard

/-- THE TIED CARD OF 'zzlaws_internal_jcs_b1.FnJcsAppendNumberIntegersExact'. -/
def fnJcsAppendNumberIntegersExactCard : Claim7 := { stood := { row := fnJcsAppendNumberIntegersExactRow, standIns := [], harness := (true, "47689caa671f5c852d6974c7836a77b9b37bca7579079015aa8ab75bc7ec1924"), looks := true }, kinds := [], alts := [], laidByText := true, laidKinds := [.data, .data, .data, .data, .data, .sentinel, .sentinel, .pinned, .pinned, .pinned], laidTests := true, laidLooks := .later }
def FnJcsAppendNumberIntegersExactCardSaid : Prop := Claim7.holds Tryd.pinned (.plain (OpenSpec.ofChange fnJcsAppendNumberIntegersExactSpec)) fnJcsAppendNumberIntegersExactCard

/-- THE TIED CARD OF 'zzlaws_internal_jcs_b1.FnJcsAppendNumberDecimalExact'. -/
def fnJcsAppendNumberDecimalExactCard : Claim7 := { stood := { row := fnJcsAppendNumberDecimalExactRow, standIns := [], harness := (true, "47689caa671f5c852d6974c7836a77b9b37bca7579079015aa8ab75bc7ec1924"), looks := true }, kinds := [], alts := [], laidByText := true, laidKinds := [.data, .data, .data, .data, .data, .sentinel, .sentinel, .pinned, .pinned, .pinned], laidTests := true, laidLooks := .later }
def FnJcsAppendNumberDecimalExactCardSaid : Prop := Claim7.holds Tryd.pinned (.plain (OpenSpec.ofChange fnJcsAppendNumberDecimalExactSpec)) fnJcsAppendNumberDecimalExactCard

/-- THE TIED CARD OF 'zzlaws_internal_jcs_b1.FnJcsAppendNumberInjective'. -/
def fnJcsAppendNumberInjectiveCard : Claim7 := { stood := { row := fnJcsAppendNumberInjectiveRow, standIns := [], harness := (true, "47689caa671f5c852d6974c7836a77b9b37bca7579079015aa8ab75bc7ec1924"), looks := true }, kinds := [], alts := [], laidByText := true, laidKinds := [.data, .data, .data, .data, .data, .sentinel, .sentinel, .pinned, .pinned, .pinned], laidTests := true, laidLooks := .later }
def FnJcsAppendNumberInjectiveCardSaid : Prop := Claim7.holds Tryd.pinned (.plain (OpenSpec.ofChange fnJcsAppendNumberInjectiveSpec)) fnJcsAppendNumberInjectiveCard
end Rows
end Go.Proofs.Qxb6606060aDoor
