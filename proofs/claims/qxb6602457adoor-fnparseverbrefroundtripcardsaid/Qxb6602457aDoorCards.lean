/-
  DERIVED. GIVEN WITH THE SEED: THE CARDS: each row of Qxb6602457aDoorRows.lean that lists a variable, with what it lists TIED to the program's text (the seventh form; the later family's looks); each row that meets fmt, with fmt's text TOLD by the authors' own Lean function (tested against real Go, not proved from fmt's source: count such statements apart). THE CARD IS WHAT COUNTS. Prove the row's statement (the work); the ties are given (Qxb6602457aDoorTie.lean); close each card by the builder's one call (the guide's Derived/Test/ToyasCard.lean, 'card_holds'). Laid BY PROGRAM, IN A SANDBOX (cutbox-door.mjs). By AI agents, Wed Nov 11 2026. No macro, syntax, notation, axiom, sorry.
-/
import Derived.Test.Qxb6602457aDoorRows
import GoSem.ClaimSeven
namespace Go.Proofs.Qxb6602457aDoor
namespace Rows

/-- THE TIED CARD OF 'zzlaws_root_b1.FnParseVerbRefMatchesDecimalModel'. -/
def fnParseVerbRefMatchesDecimalModelCard : Claim7 := { stood := { row := fnParseVerbRefMatchesDecimalModelRow, standIns := [], harness := (true, "ad12cb8b64732bb8dbb9efed2f23450ed7b5e26e29e34d7654a97e5a2c6d9f68"), looks := true }, kinds := [], alts := [], laidByText := true, laidKinds := [.data, .data, .data, .sentinel, .sentinel], laidTests := true, laidLooks := .later }
def FnParseVerbRefMatchesDecimalModelCardSaid : Prop := Claim7.holds Tryd.pinned (.plain (OpenSpec.ofChange fnParseVerbRefMatchesDecimalModelSpec)) fnParseVerbRefMatchesDecimalModelCard

/-- THE TIED CARD OF 'zzlaws_root_b1.FnParseVerbRefRoundTrip'. -/
def fnParseVerbRefRoundTripCard : Claim7 := { stood := { row := fnParseVerbRefRoundTripRow, standIns := [], harness := (true, "ad12cb8b64732bb8dbb9efed2f23450ed7b5e26e29e34d7654a97e5a2c6d9f68"), looks := true }, kinds := [], alts := [], laidByText := true, laidKinds := [.data, .data, .data, .sentinel, .sentinel], laidTests := true, laidLooks := .later }
def FnParseVerbRefRoundTripCardSaid : Prop := Claim7.holds Tryd.pinned (.plain (OpenSpec.ofChange fnParseVerbRefRoundTripSpec)) fnParseVerbRefRoundTripCard
end Rows
end Go.Proofs.Qxb6602457aDoor
