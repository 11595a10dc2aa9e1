/-
  No cell of these rows narrows 'for every input' (looked for: loops, veiled, ifaces, maps, wideKeys, modest, calm, conditions, laid).
  DERIVED. THE GIVEN ROWS OF THIS SEAT. 5 by the template 'for every input the law returns true; each argument reads behind the call as it read before'; 0 by the template 'total and deterministic' (their statements: Qxb6601699aTotals.lean).
  GIVEN WITH THE SEED: the statements are not yours to turn. If you find one false, say at which input.
  Laid BY PROGRAM, IN A SANDBOX (cutbox-rows.mjs): the forced cells as the released guide's own fill.sh prints them over the translation b7161854f07aa355… (all of the seat's roots in one cut). By AI agents, Wed Nov 11 2026. No macro, syntax, notation, axiom, sorry.
-/
import Derived.Test.Qxb6601699aChecked
import GoSem.Claim
import GoSem.ClaimJoined
import GoSem.ClaimMapViews
import Derived.JoinedTies
import Derived.KernelRfl
namespace Go.Proofs.Qxb6601699a
/- THE CELL 'sum', in the pinned program and in every row, IS THE sha256 OF THE DUMP (.gsa) THAT Qxb6601699aProg.lean LOADS. Nothing in Lean hashes anything: it is a label: what it is worth is what the hold of that sum in a sandbox is worth. -/
noncomputable def Try.pinned : Pinned := { name := "qxb6601699a", sum := "b7161854f07aa355543bc5fb95c0c5a59cc61e929c7c8204a9dcc38c4a4a9a35", checked := Try.checked }
namespace Rows
def none {H : Type} : Left H := { results := [], args := [] }

/-- 'zzlaws_internal_resp_b1.FnParseLengthMatchesGrammarModel': WHATEVER THE INPUT: true; the input reads as it did. -/
def fnParseLengthMatchesGrammarModelSpec : ChangeSpec := { name := "fnParseLengthMatchesGrammarModel", fn := fun _ => fun
  | [d] => { results := [.lit (.bool true)], args := [d] }
  | _ => none }
def fnParseLengthMatchesGrammarModelRow : OpenClaim := { program := "qxb6601699a", sum := "b7161854f07aa355543bc5fb95c0c5a59cc61e929c7c8204a9dcc38c4a4a9a35", func := "example.com/lendheap/lendheap/zzlaws_internal_resp_b1.FnParseLengthMatchesGrammarModel", spec := "fnParseLengthMatchesGrammarModel", apart := false }
def FnParseLengthMatchesGrammarModelSaid : Prop := fnParseLengthMatchesGrammarModelRow.holds Try.pinned (OpenSpec.ofChange fnParseLengthMatchesGrammarModelSpec)

/-- ITS FALSE NEIGHBOUR: 'it returns false'. Refute it at one input. -/
def fnParseLengthMatchesGrammarModelWrong : ChangeSpec := { name := "fnParseLengthMatchesGrammarModel", fn := fun _ => fun
  | [d] => { results := [.lit (.bool false)], args := [d] }
  | _ => none }
def FnParseLengthMatchesGrammarModelWrongFalsely : Prop := fnParseLengthMatchesGrammarModelRow.holds Try.pinned (OpenSpec.ofChange fnParseLengthMatchesGrammarModelWrong)

/-- 'zzlaws_internal_resp_b1.FnParseLengthReadsBackDecimal': WHATEVER THE INPUT: true; the input reads as it did. -/
def fnParseLengthReadsBackDecimalSpec : ChangeSpec := { name := "fnParseLengthReadsBackDecimal", fn := fun _ => fun
  | [d] => { results := [.lit (.bool true)], args := [d] }
  | _ => none }
def fnParseLengthReadsBackDecimalRow : OpenClaim := { program := "qxb6601699a", sum := "b7161854f07aa355543bc5fb95c0c5a59cc61e929c7c8204a9dcc38c4a4a9a35", func := "example.com/lendheap/lendheap/zzlaws_internal_resp_b1.FnParseLengthReadsBackDecimal", spec := "fnParseLengthReadsBackDecimal", apart := false }
def FnParseLengthReadsBackDecimalSaid : Prop := fnParseLengthReadsBackDecimalRow.holds Try.pinned (OpenSpec.ofChange fnParseLengthReadsBackDecimalSpec)

/-- ITS FALSE NEIGHBOUR: 'it returns false'. Refute it at one input. -/
def fnParseLengthReadsBackDecimalWrong : ChangeSpec := { name := "fnParseLengthReadsBackDecimal", fn := fun _ => fun
  | [d] => { results := [.lit (.bool false)], args := [d] }
  | _ => none }
def FnParseLengthReadsBackDecimalWrongFalsely : Prop := fnParseLengthReadsBackDecimalRow.holds Try.pinned (OpenSpec.ofChange fnParseLengthReadsBackDecimalWrong)

/-- 'zzlaws_internal_resp_b1.FnParseLengthSignMirrors': WHATEVER THE INPUT: true; the input reads as it did. -/
def fnParseLengthSignMirrorsSpec : ChangeSpec := { name := "fnParseLengthSignMirrors", fn := fun _ => fun
  | [d] => { results := [.lit (.bool true)], args := [d] }
  | _ => none }
def fnParseLengthSignMirrorsRow : OpenClaim := { program := "qxb6601699a", sum := "b7161854f07aa355543bc5fb95c0c5a59cc61e929c7c8204a9dcc38c4a4a9a35", func := "example.com/lendheap/lendheap/zzlaws_internal_resp_b1.FnParseLengthSignMirrors", spec := "fnParseLengthSignMirrors", apart := false }
def FnParseLengthSignMirrorsSaid : Prop := fnParseLengthSignMirrorsRow.holds Try.pinned (OpenSpec.ofChange fnParseLengthSignMirrorsSpec)

/-- ITS FALSE NEIGHBOUR: 'it returns false'. Refute it at one input. -/
def fnParseLengthSignMirrorsWrong : ChangeSpec := { name := "fnParseLengthSignMirrors", fn := fun _ => fun
  | [d] => { results := [.lit (.bool false)], args := [d] }
  | _ => none }
def FnParseLengthSignMirrorsWrongFalsely : Prop := fnParseLengthSignMirrorsRow.holds Try.pinned (OpenSpec.ofChange fnParseLengthSignMirrorsWrong)

/-- 'zzlaws_internal_resp_b1.FnReaderSpaceKeepsHeldBytesAndOffersRoom': WHATEVER THE INPUT: true; the input reads as it did. -/
def fnReaderSpaceKeepsHeldBytesAndOffersRoomSpec : ChangeSpec := { name := "fnReaderSpaceKeepsHeldBytesAndOffersRoom", fn := fun _ => fun
  | [d1, d2, d3] => { results := [.lit (.bool true)], args := [d1, d2, d3] }
  | _ => none }
def fnReaderSpaceKeepsHeldBytesAndOffersRoomRow : OpenClaim := { program := "qxb6601699a", sum := "b7161854f07aa355543bc5fb95c0c5a59cc61e929c7c8204a9dcc38c4a4a9a35", func := "example.com/lendheap/lendheap/zzlaws_internal_resp_b1.FnReaderSpaceKeepsHeldBytesAndOffersRoom", spec := "fnReaderSpaceKeepsHeldBytesAndOffersRoom", apart := false }
def FnReaderSpaceKeepsHeldBytesAndOffersRoomSaid : Prop := fnReaderSpaceKeepsHeldBytesAndOffersRoomRow.holds Try.pinned (OpenSpec.ofChange fnReaderSpaceKeepsHeldBytesAndOffersRoomSpec)

/-- ITS FALSE NEIGHBOUR: 'it returns false'. Refute it at one input. -/
def fnReaderSpaceKeepsHeldBytesAndOffersRoomWrong : ChangeSpec := { name := "fnReaderSpaceKeepsHeldBytesAndOffersRoom", fn := fun _ => fun
  | [d1, d2, d3] => { results := [.lit (.bool false)], args := [d1, d2, d3] }
  | _ => none }
def FnReaderSpaceKeepsHeldBytesAndOffersRoomWrongFalsely : Prop := fnReaderSpaceKeepsHeldBytesAndOffersRoomRow.holds Try.pinned (OpenSpec.ofChange fnReaderSpaceKeepsHeldBytesAndOffersRoomWrong)

/-- 'zzlaws_internal_resp_b1.FnWriterLineIsOneLine': WHATEVER THE INPUT: true; the input reads as it did. -/
def fnWriterLineIsOneLineSpec : ChangeSpec := { name := "fnWriterLineIsOneLine", fn := fun _ => fun
  | [d1, d2] => { results := [.lit (.bool true)], args := [d1, d2] }
  | _ => none }
def fnWriterLineIsOneLineRow : OpenClaim := { program := "qxb6601699a", sum := "b7161854f07aa355543bc5fb95c0c5a59cc61e929c7c8204a9dcc38c4a4a9a35", func := "example.com/lendheap/lendheap/zzlaws_internal_resp_b1.FnWriterLineIsOneLine", spec := "fnWriterLineIsOneLine", inPlace := ["internal/bytealg.IndexByteString", "internal/bytealg.IndexString"], named := ["internal/bytealg.MaxLen"], apart := false }
def FnWriterLineIsOneLineSaid : Prop := fnWriterLineIsOneLineRow.holds Try.pinned (OpenSpec.ofChange fnWriterLineIsOneLineSpec)

/-- ITS FALSE NEIGHBOUR: 'it returns false'. Refute it at one input. -/
def fnWriterLineIsOneLineWrong : ChangeSpec := { name := "fnWriterLineIsOneLine", fn := fun _ => fun
  | [d1, d2] => { results := [.lit (.bool false)], args := [d1, d2] }
  | _ => none }
def FnWriterLineIsOneLineWrongFalsely : Prop := fnWriterLineIsOneLineRow.holds Try.pinned (OpenSpec.ofChange fnWriterLineIsOneLineWrong)

end Rows
end Go.Proofs.Qxb6601699a
