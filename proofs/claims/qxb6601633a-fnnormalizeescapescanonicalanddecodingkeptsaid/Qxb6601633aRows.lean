/-
  No cell of these rows narrows 'for every input' (looked for: loops, veiled, ifaces, maps, wideKeys, modest, calm, conditions, laid).
  DERIVED. THE GIVEN ROWS OF THIS SEAT. 5 by the template 'for every input the law returns true; each argument reads behind the call as it read before'; 0 by the template 'total and deterministic' (their statements: Qxb6601633aTotals.lean).
  GIVEN WITH THE SEED: the statements are not yours to turn. If you find one false, say at which input.
  Laid BY PROGRAM, IN A SANDBOX (cutbox-rows.mjs): the forced cells as the released guide's own fill.sh prints them over the translation 081ae64337db9cd1… (all of the seat's roots in one cut). By AI agents, Wed Nov 11 2026. No macro, syntax, notation, axiom, sorry.
-/
import Derived.Test.Qxb6601633aChecked
import GoSem.Claim
import GoSem.ClaimJoined
import GoSem.ClaimMapViews
import Derived.JoinedTies
import Derived.KernelRfl
namespace Go.Proofs.Qxb6601633a
/- THE CELL 'sum', in the pinned program and in every row, IS THE sha256 OF THE DUMP (.gsa) THAT Qxb6601633aProg.lean LOADS. Nothing in Lean hashes anything: it is a label: what it is worth is what the hold of that sum in a sandbox is worth. -/
noncomputable def Try.pinned : Pinned := { name := "qxb6601633a", sum := "081ae64337db9cd1cd41f5e732184d1f546737c018f1d2794c8b8c10c90156c3", checked := Try.checked }
namespace Rows
def none {H : Type} : Left H := { results := [], args := [] }

/-- 'zzlaws_root_b1.FnMatchesPatternAgreesWithGlobModel': WHATEVER THE INPUT: true; the input reads as it did. -/
def fnMatchesPatternAgreesWithGlobModelSpec : ChangeSpec := { name := "fnMatchesPatternAgreesWithGlobModel", fn := fun _ => fun
  | [d1, d2] => { results := [.lit (.bool true)], args := [d1, d2] }
  | _ => none }
def fnMatchesPatternAgreesWithGlobModelRow : OpenClaim := { program := "qxb6601633a", sum := "081ae64337db9cd1cd41f5e732184d1f546737c018f1d2794c8b8c10c90156c3", func := "example.com/gentle-frontier/gentle-frontier/zzlaws_root_b1.FnMatchesPatternAgreesWithGlobModel", spec := "fnMatchesPatternAgreesWithGlobModel", inPlace := ["internal/bytealg.IndexByteString", "internal/bytealg.IndexString"], named := ["internal/bytealg.MaxLen"], apart := false }
def FnMatchesPatternAgreesWithGlobModelSaid : Prop := fnMatchesPatternAgreesWithGlobModelRow.holds Try.pinned (OpenSpec.ofChange fnMatchesPatternAgreesWithGlobModelSpec)

/-- ITS FALSE NEIGHBOUR: 'it returns false'. Refute it at one input. -/
def fnMatchesPatternAgreesWithGlobModelWrong : ChangeSpec := { name := "fnMatchesPatternAgreesWithGlobModel", fn := fun _ => fun
  | [d1, d2] => { results := [.lit (.bool false)], args := [d1, d2] }
  | _ => none }
def FnMatchesPatternAgreesWithGlobModelWrongFalsely : Prop := fnMatchesPatternAgreesWithGlobModelRow.holds Try.pinned (OpenSpec.ofChange fnMatchesPatternAgreesWithGlobModelWrong)

/-- 'zzlaws_root_b1.FnMatchesPatternAnchorNarrowsUnanchoredExtends': WHATEVER THE INPUT: true; the input reads as it did. -/
def fnMatchesPatternAnchorNarrowsUnanchoredExtendsSpec : ChangeSpec := { name := "fnMatchesPatternAnchorNarrowsUnanchoredExtends", fn := fun _ => fun
  | [d1, d2, d3] => { results := [.lit (.bool true)], args := [d1, d2, d3] }
  | _ => none }
def fnMatchesPatternAnchorNarrowsUnanchoredExtendsRow : OpenClaim := { program := "qxb6601633a", sum := "081ae64337db9cd1cd41f5e732184d1f546737c018f1d2794c8b8c10c90156c3", func := "example.com/gentle-frontier/gentle-frontier/zzlaws_root_b1.FnMatchesPatternAnchorNarrowsUnanchoredExtends", spec := "fnMatchesPatternAnchorNarrowsUnanchoredExtends", inPlace := ["internal/bytealg.IndexByteString", "internal/bytealg.IndexString"], named := ["internal/bytealg.MaxLen"], apart := false }
def FnMatchesPatternAnchorNarrowsUnanchoredExtendsSaid : Prop := fnMatchesPatternAnchorNarrowsUnanchoredExtendsRow.holds Try.pinned (OpenSpec.ofChange fnMatchesPatternAnchorNarrowsUnanchoredExtendsSpec)

/-- ITS FALSE NEIGHBOUR: 'it returns false'. Refute it at one input. -/
def fnMatchesPatternAnchorNarrowsUnanchoredExtendsWrong : ChangeSpec := { name := "fnMatchesPatternAnchorNarrowsUnanchoredExtends", fn := fun _ => fun
  | [d1, d2, d3] => { results := [.lit (.bool false)], args := [d1, d2, d3] }
  | _ => none }
def FnMatchesPatternAnchorNarrowsUnanchoredExtendsWrongFalsely : Prop := fnMatchesPatternAnchorNarrowsUnanchoredExtendsRow.holds Try.pinned (OpenSpec.ofChange fnMatchesPatternAnchorNarrowsUnanchoredExtendsWrong)

/-- 'zzlaws_root_b1.FnNormalizeEscapesCanonicalAndDecodingKept': WHATEVER THE INPUT: true; the input reads as it did. -/
def fnNormalizeEscapesCanonicalAndDecodingKeptSpec : ChangeSpec := { name := "fnNormalizeEscapesCanonicalAndDecodingKept", fn := fun _ => fun
  | [d] => { results := [.lit (.bool true)], args := [d] }
  | _ => none }
def fnNormalizeEscapesCanonicalAndDecodingKeptRow : OpenClaim := { program := "qxb6601633a", sum := "081ae64337db9cd1cd41f5e732184d1f546737c018f1d2794c8b8c10c90156c3", func := "example.com/gentle-frontier/gentle-frontier/zzlaws_root_b1.FnNormalizeEscapesCanonicalAndDecodingKept", spec := "fnNormalizeEscapesCanonicalAndDecodingKept", inPlace := ["internal/abi.NoEscape", "internal/bytealg.MakeNoZero"], apart := false }
def FnNormalizeEscapesCanonicalAndDecodingKeptSaid : Prop := fnNormalizeEscapesCanonicalAndDecodingKeptRow.holds Try.pinned (OpenSpec.ofChange fnNormalizeEscapesCanonicalAndDecodingKeptSpec)

/-- ITS FALSE NEIGHBOUR: 'it returns false'. Refute it at one input. -/
def fnNormalizeEscapesCanonicalAndDecodingKeptWrong : ChangeSpec := { name := "fnNormalizeEscapesCanonicalAndDecodingKept", fn := fun _ => fun
  | [d] => { results := [.lit (.bool false)], args := [d] }
  | _ => none }
def FnNormalizeEscapesCanonicalAndDecodingKeptWrongFalsely : Prop := fnNormalizeEscapesCanonicalAndDecodingKeptRow.holds Try.pinned (OpenSpec.ofChange fnNormalizeEscapesCanonicalAndDecodingKeptWrong)

/-- 'zzlaws_root_b1.FnNormalizeEscapesFixedPointsAreCanonical': WHATEVER THE INPUT: true; the input reads as it did. -/
def fnNormalizeEscapesFixedPointsAreCanonicalSpec : ChangeSpec := { name := "fnNormalizeEscapesFixedPointsAreCanonical", fn := fun _ => fun
  | [d] => { results := [.lit (.bool true)], args := [d] }
  | _ => none }
def fnNormalizeEscapesFixedPointsAreCanonicalRow : OpenClaim := { program := "qxb6601633a", sum := "081ae64337db9cd1cd41f5e732184d1f546737c018f1d2794c8b8c10c90156c3", func := "example.com/gentle-frontier/gentle-frontier/zzlaws_root_b1.FnNormalizeEscapesFixedPointsAreCanonical", spec := "fnNormalizeEscapesFixedPointsAreCanonical", inPlace := ["internal/abi.NoEscape", "internal/bytealg.MakeNoZero"], apart := false }
def FnNormalizeEscapesFixedPointsAreCanonicalSaid : Prop := fnNormalizeEscapesFixedPointsAreCanonicalRow.holds Try.pinned (OpenSpec.ofChange fnNormalizeEscapesFixedPointsAreCanonicalSpec)

/-- ITS FALSE NEIGHBOUR: 'it returns false'. Refute it at one input. -/
def fnNormalizeEscapesFixedPointsAreCanonicalWrong : ChangeSpec := { name := "fnNormalizeEscapesFixedPointsAreCanonical", fn := fun _ => fun
  | [d] => { results := [.lit (.bool false)], args := [d] }
  | _ => none }
def FnNormalizeEscapesFixedPointsAreCanonicalWrongFalsely : Prop := fnNormalizeEscapesFixedPointsAreCanonicalRow.holds Try.pinned (OpenSpec.ofChange fnNormalizeEscapesFixedPointsAreCanonicalWrong)

/-- 'zzlaws_root_b1.FnNormalizeEscapesSplitsAtTokenBoundary': WHATEVER THE INPUT: true; the input reads as it did. -/
def fnNormalizeEscapesSplitsAtTokenBoundarySpec : ChangeSpec := { name := "fnNormalizeEscapesSplitsAtTokenBoundary", fn := fun _ => fun
  | [d1, d2] => { results := [.lit (.bool true)], args := [d1, d2] }
  | _ => none }
def fnNormalizeEscapesSplitsAtTokenBoundaryRow : OpenClaim := { program := "qxb6601633a", sum := "081ae64337db9cd1cd41f5e732184d1f546737c018f1d2794c8b8c10c90156c3", func := "example.com/gentle-frontier/gentle-frontier/zzlaws_root_b1.FnNormalizeEscapesSplitsAtTokenBoundary", spec := "fnNormalizeEscapesSplitsAtTokenBoundary", inPlace := ["internal/abi.NoEscape", "internal/bytealg.MakeNoZero"], apart := false }
def FnNormalizeEscapesSplitsAtTokenBoundarySaid : Prop := fnNormalizeEscapesSplitsAtTokenBoundaryRow.holds Try.pinned (OpenSpec.ofChange fnNormalizeEscapesSplitsAtTokenBoundarySpec)

/-- ITS FALSE NEIGHBOUR: 'it returns false'. Refute it at one input. -/
def fnNormalizeEscapesSplitsAtTokenBoundaryWrong : ChangeSpec := { name := "fnNormalizeEscapesSplitsAtTokenBoundary", fn := fun _ => fun
  | [d1, d2] => { results := [.lit (.bool false)], args := [d1, d2] }
  | _ => none }
def FnNormalizeEscapesSplitsAtTokenBoundaryWrongFalsely : Prop := fnNormalizeEscapesSplitsAtTokenBoundaryRow.holds Try.pinned (OpenSpec.ofChange fnNormalizeEscapesSplitsAtTokenBoundaryWrong)

end Rows
end Go.Proofs.Qxb6601633a
