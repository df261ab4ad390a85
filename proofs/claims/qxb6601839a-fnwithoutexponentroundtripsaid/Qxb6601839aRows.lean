/-
  No cell of these rows narrows 'for every input' (looked for: loops, veiled, ifaces, maps, wideKeys, modest, calm, conditions, laid).
  DERIVED. THE GIVEN ROWS OF THIS SEAT. 6 by the template 'for every input the law returns true; each argument reads behind the call as it read before'; 0 by the template 'total and deterministic' (their statements: Qxb6601839aTotals.lean).
  GIVEN WITH THE SEED: the statements are not yours to turn. If you find one false, say at which input.
  Laid BY PROGRAM, IN A SANDBOX (cutbox-rows.mjs): the forced cells as the released guide's own fill.sh prints them over the translation dda54724944c8c54… (all of the seat's roots in one cut). By AI agents, Wed Nov 11 2026. No macro, syntax, notation, axiom, sorry.
-/
import Derived.Test.Qxb6601839aChecked
import GoSem.Claim
import GoSem.ClaimJoined
import GoSem.ClaimMapViews
import Derived.JoinedTies
import Derived.KernelRfl
namespace Go.Proofs.Qxb6601839a
/- THE CELL 'sum', in the pinned program and in every row, IS THE sha256 OF THE DUMP (.gsa) THAT Qxb6601839aProg.lean LOADS. Nothing in Lean hashes anything: it is a label: what it is worth is what the hold of that sum in a sandbox is worth. -/
noncomputable def Try.pinned : Pinned := { name := "qxb6601839a", sum := "dda54724944c8c54387219a39b74aeb50d07307baec6d7cc156d097ce9165b45", checked := Try.checked }
namespace Rows
def none {H : Type} : Left H := { results := [], args := [] }

/-- 'zzlaws_internal_number_b1.FnDigitsExactlyNonEmptyASCIIDigits': WHATEVER THE INPUT: true; the input reads as it did. -/
def fnDigitsExactlyNonEmptyASCIIDigitsSpec : ChangeSpec := { name := "fnDigitsExactlyNonEmptyASCIIDigits", fn := fun _ => fun
  | [d] => { results := [.lit (.bool true)], args := [d] }
  | _ => none }
def fnDigitsExactlyNonEmptyASCIIDigitsRow : OpenClaim := { program := "qxb6601839a", sum := "dda54724944c8c54387219a39b74aeb50d07307baec6d7cc156d097ce9165b45", func := "example.com/tuoguan/tuoguan/zzlaws_internal_number_b1.FnDigitsExactlyNonEmptyASCIIDigits", spec := "fnDigitsExactlyNonEmptyASCIIDigits", apart := false }
def FnDigitsExactlyNonEmptyASCIIDigitsSaid : Prop := fnDigitsExactlyNonEmptyASCIIDigitsRow.holds Try.pinned (OpenSpec.ofChange fnDigitsExactlyNonEmptyASCIIDigitsSpec)

/-- ITS FALSE NEIGHBOUR: 'it returns false'. Refute it at one input. -/
def fnDigitsExactlyNonEmptyASCIIDigitsWrong : ChangeSpec := { name := "fnDigitsExactlyNonEmptyASCIIDigits", fn := fun _ => fun
  | [d] => { results := [.lit (.bool false)], args := [d] }
  | _ => none }
def FnDigitsExactlyNonEmptyASCIIDigitsWrongFalsely : Prop := fnDigitsExactlyNonEmptyASCIIDigitsRow.holds Try.pinned (OpenSpec.ofChange fnDigitsExactlyNonEmptyASCIIDigitsWrong)

/-- 'zzlaws_internal_number_b1.FnDigitsOfConcatenation': WHATEVER THE INPUT: true; the input reads as it did. -/
def fnDigitsOfConcatenationSpec : ChangeSpec := { name := "fnDigitsOfConcatenation", fn := fun _ => fun
  | [d1, d2] => { results := [.lit (.bool true)], args := [d1, d2] }
  | _ => none }
def fnDigitsOfConcatenationRow : OpenClaim := { program := "qxb6601839a", sum := "dda54724944c8c54387219a39b74aeb50d07307baec6d7cc156d097ce9165b45", func := "example.com/tuoguan/tuoguan/zzlaws_internal_number_b1.FnDigitsOfConcatenation", spec := "fnDigitsOfConcatenation", apart := false }
def FnDigitsOfConcatenationSaid : Prop := fnDigitsOfConcatenationRow.holds Try.pinned (OpenSpec.ofChange fnDigitsOfConcatenationSpec)

/-- ITS FALSE NEIGHBOUR: 'it returns false'. Refute it at one input. -/
def fnDigitsOfConcatenationWrong : ChangeSpec := { name := "fnDigitsOfConcatenation", fn := fun _ => fun
  | [d1, d2] => { results := [.lit (.bool false)], args := [d1, d2] }
  | _ => none }
def FnDigitsOfConcatenationWrongFalsely : Prop := fnDigitsOfConcatenationRow.holds Try.pinned (OpenSpec.ofChange fnDigitsOfConcatenationWrong)

/-- 'zzlaws_internal_number_b1.FnDigitsAcceptsEveryRenderedNumber': WHATEVER THE INPUT: true; the input reads as it did. -/
def fnDigitsAcceptsEveryRenderedNumberSpec : ChangeSpec := { name := "fnDigitsAcceptsEveryRenderedNumber", fn := fun _ => fun
  | [d] => { results := [.lit (.bool true)], args := [d] }
  | _ => none }
def fnDigitsAcceptsEveryRenderedNumberRow : OpenClaim := { program := "qxb6601839a", sum := "dda54724944c8c54387219a39b74aeb50d07307baec6d7cc156d097ce9165b45", func := "example.com/tuoguan/tuoguan/zzlaws_internal_number_b1.FnDigitsAcceptsEveryRenderedNumber", spec := "fnDigitsAcceptsEveryRenderedNumber", apart := false }
def FnDigitsAcceptsEveryRenderedNumberSaid : Prop := fnDigitsAcceptsEveryRenderedNumberRow.holds Try.pinned (OpenSpec.ofChange fnDigitsAcceptsEveryRenderedNumberSpec)

/-- ITS FALSE NEIGHBOUR: 'it returns false'. Refute it at one input. -/
def fnDigitsAcceptsEveryRenderedNumberWrong : ChangeSpec := { name := "fnDigitsAcceptsEveryRenderedNumber", fn := fun _ => fun
  | [d] => { results := [.lit (.bool false)], args := [d] }
  | _ => none }
def FnDigitsAcceptsEveryRenderedNumberWrongFalsely : Prop := fnDigitsAcceptsEveryRenderedNumberRow.holds Try.pinned (OpenSpec.ofChange fnDigitsAcceptsEveryRenderedNumberWrong)

/-- 'zzlaws_internal_number_b1.FnWithoutExponentMatchesBackwardScan': WHATEVER THE INPUT: true; the input reads as it did. -/
def fnWithoutExponentMatchesBackwardScanSpec : ChangeSpec := { name := "fnWithoutExponentMatchesBackwardScan", fn := fun _ => fun
  | [d] => { results := [.lit (.bool true)], args := [d] }
  | _ => none }
def fnWithoutExponentMatchesBackwardScanRow : OpenClaim := { program := "qxb6601839a", sum := "dda54724944c8c54387219a39b74aeb50d07307baec6d7cc156d097ce9165b45", func := "example.com/tuoguan/tuoguan/zzlaws_internal_number_b1.FnWithoutExponentMatchesBackwardScan", spec := "fnWithoutExponentMatchesBackwardScan", inPlace := ["internal/bytealg.IndexByteString", "internal/bytealg.IndexString"], named := ["internal/bytealg.MaxLen"], apart := false }
def FnWithoutExponentMatchesBackwardScanSaid : Prop := fnWithoutExponentMatchesBackwardScanRow.holds Try.pinned (OpenSpec.ofChange fnWithoutExponentMatchesBackwardScanSpec)

/-- ITS FALSE NEIGHBOUR: 'it returns false'. Refute it at one input. -/
def fnWithoutExponentMatchesBackwardScanWrong : ChangeSpec := { name := "fnWithoutExponentMatchesBackwardScan", fn := fun _ => fun
  | [d] => { results := [.lit (.bool false)], args := [d] }
  | _ => none }
def FnWithoutExponentMatchesBackwardScanWrongFalsely : Prop := fnWithoutExponentMatchesBackwardScanRow.holds Try.pinned (OpenSpec.ofChange fnWithoutExponentMatchesBackwardScanWrong)

/-- 'zzlaws_internal_number_b1.FnWithoutExponentRoundTrip': WHATEVER THE INPUT: true; the input reads as it did. -/
def fnWithoutExponentRoundTripSpec : ChangeSpec := { name := "fnWithoutExponentRoundTrip", fn := fun _ => fun
  | [d1, d2, d3, d4, d5] => { results := [.lit (.bool true)], args := [d1, d2, d3, d4, d5] }
  | _ => none }
def fnWithoutExponentRoundTripRow : OpenClaim := { program := "qxb6601839a", sum := "dda54724944c8c54387219a39b74aeb50d07307baec6d7cc156d097ce9165b45", func := "example.com/tuoguan/tuoguan/zzlaws_internal_number_b1.FnWithoutExponentRoundTrip", spec := "fnWithoutExponentRoundTrip", inPlace := ["internal/bytealg.IndexByteString", "internal/bytealg.IndexString"], named := ["internal/bytealg.MaxLen"], apart := false }
def FnWithoutExponentRoundTripSaid : Prop := fnWithoutExponentRoundTripRow.holds Try.pinned (OpenSpec.ofChange fnWithoutExponentRoundTripSpec)

/-- ITS FALSE NEIGHBOUR: 'it returns false'. Refute it at one input. -/
def fnWithoutExponentRoundTripWrong : ChangeSpec := { name := "fnWithoutExponentRoundTrip", fn := fun _ => fun
  | [d1, d2, d3, d4, d5] => { results := [.lit (.bool false)], args := [d1, d2, d3, d4, d5] }
  | _ => none }
def FnWithoutExponentRoundTripWrongFalsely : Prop := fnWithoutExponentRoundTripRow.holds Try.pinned (OpenSpec.ofChange fnWithoutExponentRoundTripWrong)

/-- 'zzlaws_internal_number_b1.FnWithoutExponentHeadIsFinal': WHATEVER THE INPUT: true; the input reads as it did. -/
def fnWithoutExponentHeadIsFinalSpec : ChangeSpec := { name := "fnWithoutExponentHeadIsFinal", fn := fun _ => fun
  | [d] => { results := [.lit (.bool true)], args := [d] }
  | _ => none }
def fnWithoutExponentHeadIsFinalRow : OpenClaim := { program := "qxb6601839a", sum := "dda54724944c8c54387219a39b74aeb50d07307baec6d7cc156d097ce9165b45", func := "example.com/tuoguan/tuoguan/zzlaws_internal_number_b1.FnWithoutExponentHeadIsFinal", spec := "fnWithoutExponentHeadIsFinal", inPlace := ["internal/bytealg.IndexByteString", "internal/bytealg.IndexString"], named := ["internal/bytealg.MaxLen"], apart := false }
def FnWithoutExponentHeadIsFinalSaid : Prop := fnWithoutExponentHeadIsFinalRow.holds Try.pinned (OpenSpec.ofChange fnWithoutExponentHeadIsFinalSpec)

/-- ITS FALSE NEIGHBOUR: 'it returns false'. Refute it at one input. -/
def fnWithoutExponentHeadIsFinalWrong : ChangeSpec := { name := "fnWithoutExponentHeadIsFinal", fn := fun _ => fun
  | [d] => { results := [.lit (.bool false)], args := [d] }
  | _ => none }
def FnWithoutExponentHeadIsFinalWrongFalsely : Prop := fnWithoutExponentHeadIsFinalRow.holds Try.pinned (OpenSpec.ofChange fnWithoutExponentHeadIsFinalWrong)

end Rows
end Go.Proofs.Qxb6601839a
