/-
  No cell of these rows narrows 'for every input' (looked for: loops, veiled, ifaces, maps, wideKeys, modest, calm, conditions, laid).
  DERIVED. THE GIVEN ROWS OF THIS SEAT. 6 by the template 'for every input the law returns true; each argument reads behind the call as it read before'; 0 by the template 'total and deterministic' (their statements: Qxb6601523aTotals.lean).
  GIVEN WITH THE SEED: the statements are not yours to turn. If you find one false, say at which input.
  Laid BY PROGRAM, IN A SANDBOX (cutbox-rows.mjs): the forced cells as the released guide's own fill.sh prints them over the translation 083197a5569ebeb4… (all of the seat's roots in one cut). By AI agents, Wed Nov 11 2026. No macro, syntax, notation, axiom, sorry.
-/
import Derived.Test.Qxb6601523aChecked
import GoSem.Claim
import GoSem.ClaimJoined
import GoSem.ClaimMapViews
import Derived.JoinedTies
import Derived.KernelRfl
namespace Go.Proofs.Qxb6601523a
/- THE CELL 'sum', in the pinned program and in every row, IS THE sha256 OF THE DUMP (.gsa) THAT Qxb6601523aProg.lean LOADS. Nothing in Lean hashes anything: it is a label: what it is worth is what the hold of that sum in a sandbox is worth. -/
noncomputable def Try.pinned : Pinned := { name := "qxb6601523a", sum := "083197a5569ebeb40b1e3c907f524d971cc99c86dbf9bcce9457cf4a78dccaa6", checked := Try.checked }
namespace Rows
def none {H : Type} : Left H := { results := [], args := [] }

/-- 'zzlaws_internal_config_b1.FnValueQuotedRoundTrip': WHATEVER THE INPUT: true; the input reads as it did. -/
def fnValueQuotedRoundTripSpec : ChangeSpec := { name := "fnValueQuotedRoundTrip", fn := fun _ => fun
  | [d1, d2, d3] => { results := [.lit (.bool true)], args := [d1, d2, d3] }
  | _ => none }
def fnValueQuotedRoundTripRow : OpenClaim := { program := "qxb6601523a", sum := "083197a5569ebeb40b1e3c907f524d971cc99c86dbf9bcce9457cf4a78dccaa6", func := "example.com/packwire/packwire/zzlaws_internal_config_b1.FnValueQuotedRoundTrip", spec := "fnValueQuotedRoundTrip", apart := false }
def FnValueQuotedRoundTripSaid : Prop := fnValueQuotedRoundTripRow.holds Try.pinned (OpenSpec.ofChange fnValueQuotedRoundTripSpec)

/-- ITS FALSE NEIGHBOUR: 'it returns false'. Refute it at one input. -/
def fnValueQuotedRoundTripWrong : ChangeSpec := { name := "fnValueQuotedRoundTrip", fn := fun _ => fun
  | [d1, d2, d3] => { results := [.lit (.bool false)], args := [d1, d2, d3] }
  | _ => none }
def FnValueQuotedRoundTripWrongFalsely : Prop := fnValueQuotedRoundTripRow.holds Try.pinned (OpenSpec.ofChange fnValueQuotedRoundTripWrong)

/-- 'zzlaws_internal_config_b1.FnValueReadsNothingBeyondItsStop': WHATEVER THE INPUT: true; the input reads as it did. -/
def fnValueReadsNothingBeyondItsStopSpec : ChangeSpec := { name := "fnValueReadsNothingBeyondItsStop", fn := fun _ => fun
  | [d1, d2] => { results := [.lit (.bool true)], args := [d1, d2] }
  | _ => none }
def fnValueReadsNothingBeyondItsStopRow : OpenClaim := { program := "qxb6601523a", sum := "083197a5569ebeb40b1e3c907f524d971cc99c86dbf9bcce9457cf4a78dccaa6", func := "example.com/packwire/packwire/zzlaws_internal_config_b1.FnValueReadsNothingBeyondItsStop", spec := "fnValueReadsNothingBeyondItsStop", apart := false }
def FnValueReadsNothingBeyondItsStopSaid : Prop := fnValueReadsNothingBeyondItsStopRow.holds Try.pinned (OpenSpec.ofChange fnValueReadsNothingBeyondItsStopSpec)

/-- ITS FALSE NEIGHBOUR: 'it returns false'. Refute it at one input. -/
def fnValueReadsNothingBeyondItsStopWrong : ChangeSpec := { name := "fnValueReadsNothingBeyondItsStop", fn := fun _ => fun
  | [d1, d2] => { results := [.lit (.bool false)], args := [d1, d2] }
  | _ => none }
def FnValueReadsNothingBeyondItsStopWrongFalsely : Prop := fnValueReadsNothingBeyondItsStopRow.holds Try.pinned (OpenSpec.ofChange fnValueReadsNothingBeyondItsStopWrong)

/-- 'zzlaws_internal_config_b1.FnHeaderMatchesModel': WHATEVER THE INPUT: true; the input reads as it did. -/
def fnHeaderMatchesModelSpec : ChangeSpec := { name := "fnHeaderMatchesModel", fn := fun _ => fun
  | [d1, d2] => { results := [.lit (.bool true)], args := [d1, d2] }
  | _ => none }
def fnHeaderMatchesModelRow : OpenClaim := { program := "qxb6601523a", sum := "083197a5569ebeb40b1e3c907f524d971cc99c86dbf9bcce9457cf4a78dccaa6", func := "example.com/packwire/packwire/zzlaws_internal_config_b1.FnHeaderMatchesModel", spec := "fnHeaderMatchesModel", apart := false }
def FnHeaderMatchesModelSaid : Prop := fnHeaderMatchesModelRow.holds Try.pinned (OpenSpec.ofChange fnHeaderMatchesModelSpec)

/-- ITS FALSE NEIGHBOUR: 'it returns false'. Refute it at one input. -/
def fnHeaderMatchesModelWrong : ChangeSpec := { name := "fnHeaderMatchesModel", fn := fun _ => fun
  | [d1, d2] => { results := [.lit (.bool false)], args := [d1, d2] }
  | _ => none }
def FnHeaderMatchesModelWrongFalsely : Prop := fnHeaderMatchesModelRow.holds Try.pinned (OpenSpec.ofChange fnHeaderMatchesModelWrong)

/-- 'zzlaws_internal_config_b1.FnHeaderRoundTrip': WHATEVER THE INPUT: true; the input reads as it did. -/
def fnHeaderRoundTripSpec : ChangeSpec := { name := "fnHeaderRoundTrip", fn := fun _ => fun
  | [d1, d2, d3, d4] => { results := [.lit (.bool true)], args := [d1, d2, d3, d4] }
  | _ => none }
def fnHeaderRoundTripRow : OpenClaim := { program := "qxb6601523a", sum := "083197a5569ebeb40b1e3c907f524d971cc99c86dbf9bcce9457cf4a78dccaa6", func := "example.com/packwire/packwire/zzlaws_internal_config_b1.FnHeaderRoundTrip", spec := "fnHeaderRoundTrip", apart := false }
def FnHeaderRoundTripSaid : Prop := fnHeaderRoundTripRow.holds Try.pinned (OpenSpec.ofChange fnHeaderRoundTripSpec)

/-- ITS FALSE NEIGHBOUR: 'it returns false'. Refute it at one input. -/
def fnHeaderRoundTripWrong : ChangeSpec := { name := "fnHeaderRoundTrip", fn := fun _ => fun
  | [d1, d2, d3, d4] => { results := [.lit (.bool false)], args := [d1, d2, d3, d4] }
  | _ => none }
def FnHeaderRoundTripWrongFalsely : Prop := fnHeaderRoundTripRow.holds Try.pinned (OpenSpec.ofChange fnHeaderRoundTripWrong)

/-- 'zzlaws_internal_config_b1.FnHeaderStopsWithinItsLine': WHATEVER THE INPUT: true; the input reads as it did. -/
def fnHeaderStopsWithinItsLineSpec : ChangeSpec := { name := "fnHeaderStopsWithinItsLine", fn := fun _ => fun
  | [d1, d2] => { results := [.lit (.bool true)], args := [d1, d2] }
  | _ => none }
def fnHeaderStopsWithinItsLineRow : OpenClaim := { program := "qxb6601523a", sum := "083197a5569ebeb40b1e3c907f524d971cc99c86dbf9bcce9457cf4a78dccaa6", func := "example.com/packwire/packwire/zzlaws_internal_config_b1.FnHeaderStopsWithinItsLine", spec := "fnHeaderStopsWithinItsLine", apart := false }
def FnHeaderStopsWithinItsLineSaid : Prop := fnHeaderStopsWithinItsLineRow.holds Try.pinned (OpenSpec.ofChange fnHeaderStopsWithinItsLineSpec)

/-- ITS FALSE NEIGHBOUR: 'it returns false'. Refute it at one input. -/
def fnHeaderStopsWithinItsLineWrong : ChangeSpec := { name := "fnHeaderStopsWithinItsLine", fn := fun _ => fun
  | [d1, d2] => { results := [.lit (.bool false)], args := [d1, d2] }
  | _ => none }
def FnHeaderStopsWithinItsLineWrongFalsely : Prop := fnHeaderStopsWithinItsLineRow.holds Try.pinned (OpenSpec.ofChange fnHeaderStopsWithinItsLineWrong)

/-- 'zzlaws_internal_config_b1.FnSettingRoundTrip': WHATEVER THE INPUT: true; the input reads as it did. -/
def fnSettingRoundTripSpec : ChangeSpec := { name := "fnSettingRoundTrip", fn := fun _ => fun
  | [d1, d2, d3, d4, d5] => { results := [.lit (.bool true)], args := [d1, d2, d3, d4, d5] }
  | _ => none }
def fnSettingRoundTripRow : OpenClaim := { program := "qxb6601523a", sum := "083197a5569ebeb40b1e3c907f524d971cc99c86dbf9bcce9457cf4a78dccaa6", func := "example.com/packwire/packwire/zzlaws_internal_config_b1.FnSettingRoundTrip", spec := "fnSettingRoundTrip", apart := false }
def FnSettingRoundTripSaid : Prop := fnSettingRoundTripRow.holds Try.pinned (OpenSpec.ofChange fnSettingRoundTripSpec)

/-- ITS FALSE NEIGHBOUR: 'it returns false'. Refute it at one input. -/
def fnSettingRoundTripWrong : ChangeSpec := { name := "fnSettingRoundTrip", fn := fun _ => fun
  | [d1, d2, d3, d4, d5] => { results := [.lit (.bool false)], args := [d1, d2, d3, d4, d5] }
  | _ => none }
def FnSettingRoundTripWrongFalsely : Prop := fnSettingRoundTripRow.holds Try.pinned (OpenSpec.ofChange fnSettingRoundTripWrong)

end Rows
end Go.Proofs.Qxb6601523a
