/-
  DERIVED. GIVEN WITH THE SEED: THE CARDS: each row of Qxb6601801aDoorRows.lean that lists a variable, with what it lists TIED to the program's text (the seventh form; the later family's looks); each row that meets fmt, with fmt's text TOLD by the authors' own Lean function (tested against real Go, not proved from fmt's source: count such statements apart). THE CARD IS WHAT COUNTS. Prove the row's statement (the work); the ties are given (Qxb6601801aDoorTie.lean); close each card by the builder's one call (the guide's Derived/Test/ToyasCard.lean, 'card_holds'). Laid BY PROGRAM, IN A SANDBOX (cutbox-door.mjs). By AI agents, Wed Nov 11 2026. No macro, syntax, notation, axiom, sorry.
-/
import Derived.Test.Qxb6601801aDoorRows
import GoSem.ClaimSeven
namespace Go.Proofs.Qxb6601801aDoor
namespace Rows

/-- THE TIED CARD OF 'zzlaws_internal_tlog_b1.FnParseDecimalMatchesDigitModel'. -/
def fnParseDecimalMatchesDigitModelCard : Claim7 := { stood := { row := fnParseDecimalMatchesDigitModelRow, standIns := [], harness := (true, "62c03b8fd88c38d2886af6153aae81ad7a23f5cfd1f7c9deac24e5dbd04ec961"), looks := true }, kinds := [], alts := [], laidByText := true, laidKinds := [.data, .data, .data, .sentinel, .sentinel], laidTests := true, laidLooks := .later }
def FnParseDecimalMatchesDigitModelCardSaid : Prop := Claim7.holds Tryd.pinned (.plain (OpenSpec.ofChange fnParseDecimalMatchesDigitModelSpec)) fnParseDecimalMatchesDigitModelCard

/-- THE TIED CARD OF 'zzlaws_internal_tlog_b1.FnParseDecimalOrderAgreesWithShortlex'. -/
def fnParseDecimalOrderAgreesWithShortlexCard : Claim7 := { stood := { row := fnParseDecimalOrderAgreesWithShortlexRow, standIns := [], harness := (true, "62c03b8fd88c38d2886af6153aae81ad7a23f5cfd1f7c9deac24e5dbd04ec961"), looks := true }, kinds := [], alts := [], laidByText := true, laidKinds := [.data, .data, .data, .sentinel, .sentinel], laidTests := true, laidLooks := .later }
def FnParseDecimalOrderAgreesWithShortlexCardSaid : Prop := Claim7.holds Tryd.pinned (.plain (OpenSpec.ofChange fnParseDecimalOrderAgreesWithShortlexSpec)) fnParseDecimalOrderAgreesWithShortlexCard

/-- THE TIED CARD OF 'zzlaws_internal_tlog_b1.FnParseDecimalReadsEveryRendering'. -/
def fnParseDecimalReadsEveryRenderingCard : Claim7 := { stood := { row := fnParseDecimalReadsEveryRenderingRow, standIns := [], harness := (true, "62c03b8fd88c38d2886af6153aae81ad7a23f5cfd1f7c9deac24e5dbd04ec961"), looks := true }, kinds := [], alts := [], laidByText := true, laidKinds := [.data, .data, .data, .sentinel, .sentinel], laidTests := true, laidLooks := .later }
def FnParseDecimalReadsEveryRenderingCardSaid : Prop := Claim7.holds Tryd.pinned (.plain (OpenSpec.ofChange fnParseDecimalReadsEveryRenderingSpec)) fnParseDecimalReadsEveryRenderingCard
end Rows
end Go.Proofs.Qxb6601801aDoor
