/-
  DERIVED. GIVEN WITH THE SEED: THE CARDS: each row of Qxb6601769aDoorRows.lean that lists a variable, with what it lists TIED to the program's text (the seventh form; the later family's looks); each row that meets fmt, with fmt's text TOLD by the authors' own Lean function (tested against real Go, not proved from fmt's source: count such statements apart). THE CARD IS WHAT COUNTS. Prove the row's statement (the work); the ties are given (Qxb6601769aDoorTie.lean); close each card by the builder's one call (the guide's Derived/Test/ToyasCard.lean, 'card_holds'). Laid BY PROGRAM, IN A SANDBOX (cutbox-door.mjs). By AI agents, Wed Nov 11 2026. No macro, syntax, notation, axiom, sorry.
-/
import Derived.Test.Qxb6601769aDoorRows
import GoSem.ClaimSeven
namespace Go.Proofs.Qxb6601769aDoor
namespace Rows

/-- THE TIED CARD OF 'zzlaws_internal_money_b1.FnGroupedMatchesModel'. -/
def fnGroupedMatchesModelCard : Claim7 := { stood := { row := fnGroupedMatchesModelRow, standIns := [], harness := (true, "cbf9f991b18de3052e88d37be2601c046e82f39cceaaadb9a6d199fceab7515b"), looks := false }, kinds := [], alts := [], laidByText := true, laidKinds := [.data, .data, .data], laidTests := true, laidLooks := .later }
def FnGroupedMatchesModelCardSaid : Prop := Claim7.holds Tryd.pinned (.plain (OpenSpec.ofChange fnGroupedMatchesModelSpec)) fnGroupedMatchesModelCard

/-- THE TIED CARD OF 'zzlaws_internal_money_b1.FnGroupedStripsToString'. -/
def fnGroupedStripsToStringCard : Claim7 := { stood := { row := fnGroupedStripsToStringRow, standIns := [], harness := (true, "cbf9f991b18de3052e88d37be2601c046e82f39cceaaadb9a6d199fceab7515b"), looks := false }, kinds := [], alts := [], laidByText := true, laidKinds := [.data, .data, .data], laidTests := true, laidLooks := .later }
def FnGroupedStripsToStringCardSaid : Prop := Claim7.holds Tryd.pinned (.plain (OpenSpec.ofChange fnGroupedStripsToStringSpec)) fnGroupedStripsToStringCard

/-- THE TIED CARD OF 'zzlaws_internal_money_b1.FnGroupedNegationAddsMinus'. -/
def fnGroupedNegationAddsMinusCard : Claim7 := { stood := { row := fnGroupedNegationAddsMinusRow, standIns := [], harness := (true, "cbf9f991b18de3052e88d37be2601c046e82f39cceaaadb9a6d199fceab7515b"), looks := false }, kinds := [], alts := [], laidByText := true, laidKinds := [.data, .data, .data], laidTests := true, laidLooks := .later }
def FnGroupedNegationAddsMinusCardSaid : Prop := Claim7.holds Tryd.pinned (.plain (OpenSpec.ofChange fnGroupedNegationAddsMinusSpec)) fnGroupedNegationAddsMinusCard

/-- THE TIED CARD OF 'zzlaws_internal_money_b1.FnFormatFixedMatchesModel'. -/
def fnFormatFixedMatchesModelCard : Claim7 := { stood := { row := fnFormatFixedMatchesModelRow, standIns := [], harness := (true, "cbf9f991b18de3052e88d37be2601c046e82f39cceaaadb9a6d199fceab7515b"), looks := false }, kinds := [], alts := [], laidByText := true, laidKinds := [.data, .data, .data], laidTests := true, laidLooks := .later }
def FnFormatFixedMatchesModelCardSaid : Prop := Claim7.holds Tryd.pinned (.plain (OpenSpec.ofChange fnFormatFixedMatchesModelSpec)) fnFormatFixedMatchesModelCard

/-- THE TIED CARD OF 'zzlaws_internal_money_b1.FnFormatFixedParsesBack'. -/
def fnFormatFixedParsesBackCard : Claim7 := { stood := { row := fnFormatFixedParsesBackRow, standIns := [], harness := (true, "cbf9f991b18de3052e88d37be2601c046e82f39cceaaadb9a6d199fceab7515b"), looks := false }, kinds := [], alts := [], laidByText := true, laidKinds := [.data, .data, .data], laidTests := true, laidLooks := .later }
def FnFormatFixedParsesBackCardSaid : Prop := Claim7.holds Tryd.pinned (.plain (OpenSpec.ofChange fnFormatFixedParsesBackSpec)) fnFormatFixedParsesBackCard
end Rows
end Go.Proofs.Qxb6601769aDoor
