/-
  No cell of these rows narrows 'for every input' (looked for: loops, veiled, ifaces, maps, wideKeys, modest, calm, conditions, laid).
  DERIVED. THE GIVEN ROWS OF THIS SEAT. 7 by the template 'for every input the law returns true; each argument reads behind the call as it read before'; 0 by the template 'total and deterministic' (their statements: Qxb6000020aTotals.lean).
  GIVEN WITH THE SEED: the statements are not yours to turn. If you find one false, say at which input.
  Laid BY PROGRAM, IN A SANDBOX (cutbox-rows.mjs): the forced cells as the released guide's own fill.sh prints them over the translation 3e93f52867a2265b… (all of the seat's roots in one cut). By AI agents, Wed Nov 11 2026. No macro, syntax, notation, axiom, sorry.
-/
import Derived.Test.Qxb6000020aChecked
import GoSem.Claim
import GoSem.ClaimJoined
import GoSem.ClaimMapViews
import Derived.JoinedTies
import Derived.KernelRfl
namespace Go.Proofs.Qxb6000020a
/- THE CELL 'sum', in the pinned program and in every row, IS THE sha256 OF THE DUMP (.gsa) THAT Qxb6000020aProg.lean LOADS. Nothing in Lean hashes anything: it is a label: what it is worth is what the hold of that sum in a sandbox is worth. -/
noncomputable def Try.pinned : Pinned := { name := "qxb6000020a", sum := "3e93f52867a2265bab7bdf0cbb7c0a6a4ba4147039ec647c790d5577736fb0b9", checked := Try.checked }
namespace Rows
def none {H : Type} : Left H := { results := [], args := [] }

/-- 'zzlaws_pkg_history_b1.FnLongUvarintAtMatchesModel': WHATEVER THE INPUT: true; the input reads as it did. -/
def fnLongUvarintAtMatchesModelSpec : ChangeSpec := { name := "fnLongUvarintAtMatchesModel", fn := fun _ => fun
  | [d1, d2] => { results := [.lit (.bool true)], args := [d1, d2] }
  | _ => none }
def fnLongUvarintAtMatchesModelRow : OpenClaim := { program := "qxb6000020a", sum := "3e93f52867a2265bab7bdf0cbb7c0a6a4ba4147039ec647c790d5577736fb0b9", func := "example.com/slackline/slackline/zzlaws_pkg_history_b1.FnLongUvarintAtMatchesModel", spec := "fnLongUvarintAtMatchesModel", apart := false }
def FnLongUvarintAtMatchesModelSaid : Prop := fnLongUvarintAtMatchesModelRow.holds Try.pinned (OpenSpec.ofChange fnLongUvarintAtMatchesModelSpec)

/-- ITS FALSE NEIGHBOUR: 'it returns false'. Refute it at one input. -/
def fnLongUvarintAtMatchesModelWrong : ChangeSpec := { name := "fnLongUvarintAtMatchesModel", fn := fun _ => fun
  | [d1, d2] => { results := [.lit (.bool false)], args := [d1, d2] }
  | _ => none }
def FnLongUvarintAtMatchesModelWrongFalsely : Prop := fnLongUvarintAtMatchesModelRow.holds Try.pinned (OpenSpec.ofChange fnLongUvarintAtMatchesModelWrong)

/-- 'zzlaws_pkg_history_b1.FnLongUvarintAtReadsBackEncoding': WHATEVER THE INPUT: true; the input reads as it did. -/
def fnLongUvarintAtReadsBackEncodingSpec : ChangeSpec := { name := "fnLongUvarintAtReadsBackEncoding", fn := fun _ => fun
  | [d1, d2, d3] => { results := [.lit (.bool true)], args := [d1, d2, d3] }
  | _ => none }
def fnLongUvarintAtReadsBackEncodingRow : OpenClaim := { program := "qxb6000020a", sum := "3e93f52867a2265bab7bdf0cbb7c0a6a4ba4147039ec647c790d5577736fb0b9", func := "example.com/slackline/slackline/zzlaws_pkg_history_b1.FnLongUvarintAtReadsBackEncoding", spec := "fnLongUvarintAtReadsBackEncoding", apart := false }
def FnLongUvarintAtReadsBackEncodingSaid : Prop := fnLongUvarintAtReadsBackEncodingRow.holds Try.pinned (OpenSpec.ofChange fnLongUvarintAtReadsBackEncodingSpec)

/-- ITS FALSE NEIGHBOUR: 'it returns false'. Refute it at one input. -/
def fnLongUvarintAtReadsBackEncodingWrong : ChangeSpec := { name := "fnLongUvarintAtReadsBackEncoding", fn := fun _ => fun
  | [d1, d2, d3] => { results := [.lit (.bool false)], args := [d1, d2, d3] }
  | _ => none }
def FnLongUvarintAtReadsBackEncodingWrongFalsely : Prop := fnLongUvarintAtReadsBackEncodingRow.holds Try.pinned (OpenSpec.ofChange fnLongUvarintAtReadsBackEncodingWrong)

/-- 'zzlaws_pkg_history_b1.FnUvarintAtAgreesWithLongUvarintAt': WHATEVER THE INPUT: true; the input reads as it did. -/
def fnUvarintAtAgreesWithLongUvarintAtSpec : ChangeSpec := { name := "fnUvarintAtAgreesWithLongUvarintAt", fn := fun _ => fun
  | [d1, d2] => { results := [.lit (.bool true)], args := [d1, d2] }
  | _ => none }
def fnUvarintAtAgreesWithLongUvarintAtRow : OpenClaim := { program := "qxb6000020a", sum := "3e93f52867a2265bab7bdf0cbb7c0a6a4ba4147039ec647c790d5577736fb0b9", func := "example.com/slackline/slackline/zzlaws_pkg_history_b1.FnUvarintAtAgreesWithLongUvarintAt", spec := "fnUvarintAtAgreesWithLongUvarintAt", apart := false }
def FnUvarintAtAgreesWithLongUvarintAtSaid : Prop := fnUvarintAtAgreesWithLongUvarintAtRow.holds Try.pinned (OpenSpec.ofChange fnUvarintAtAgreesWithLongUvarintAtSpec)

/-- ITS FALSE NEIGHBOUR: 'it returns false'. Refute it at one input. -/
def fnUvarintAtAgreesWithLongUvarintAtWrong : ChangeSpec := { name := "fnUvarintAtAgreesWithLongUvarintAt", fn := fun _ => fun
  | [d1, d2] => { results := [.lit (.bool false)], args := [d1, d2] }
  | _ => none }
def FnUvarintAtAgreesWithLongUvarintAtWrongFalsely : Prop := fnUvarintAtAgreesWithLongUvarintAtRow.holds Try.pinned (OpenSpec.ofChange fnUvarintAtAgreesWithLongUvarintAtWrong)

/-- 'zzlaws_pkg_history_b1.FnDownAgreesWithClassicSiftDown': WHATEVER THE INPUT: true; the input reads as it did. -/
def fnDownAgreesWithClassicSiftDownSpec : ChangeSpec := { name := "fnDownAgreesWithClassicSiftDown", fn := fun _ => fun
  | [d1, d2, d3, d4, d5] => { results := [.lit (.bool true)], args := [d1, d2, d3, d4, d5] }
  | _ => none }
def fnDownAgreesWithClassicSiftDownRow : OpenClaim := { program := "qxb6000020a", sum := "3e93f52867a2265bab7bdf0cbb7c0a6a4ba4147039ec647c790d5577736fb0b9", func := "example.com/slackline/slackline/zzlaws_pkg_history_b1.FnDownAgreesWithClassicSiftDown", spec := "fnDownAgreesWithClassicSiftDown", apart := false }
def FnDownAgreesWithClassicSiftDownSaid : Prop := fnDownAgreesWithClassicSiftDownRow.holds Try.pinned (OpenSpec.ofChange fnDownAgreesWithClassicSiftDownSpec)

/-- ITS FALSE NEIGHBOUR: 'it returns false'. Refute it at one input. -/
def fnDownAgreesWithClassicSiftDownWrong : ChangeSpec := { name := "fnDownAgreesWithClassicSiftDown", fn := fun _ => fun
  | [d1, d2, d3, d4, d5] => { results := [.lit (.bool false)], args := [d1, d2, d3, d4, d5] }
  | _ => none }
def FnDownAgreesWithClassicSiftDownWrongFalsely : Prop := fnDownAgreesWithClassicSiftDownRow.holds Try.pinned (OpenSpec.ofChange fnDownAgreesWithClassicSiftDownWrong)

/-- 'zzlaws_pkg_history_b1.FnDownHeapSortsTurns': WHATEVER THE INPUT: true; the input reads as it did. -/
def fnDownHeapSortsTurnsSpec : ChangeSpec := { name := "fnDownHeapSortsTurns", fn := fun _ => fun
  | [d1, d2, d3, d4] => { results := [.lit (.bool true)], args := [d1, d2, d3, d4] }
  | _ => none }
def fnDownHeapSortsTurnsRow : OpenClaim := { program := "qxb6000020a", sum := "3e93f52867a2265bab7bdf0cbb7c0a6a4ba4147039ec647c790d5577736fb0b9", func := "example.com/slackline/slackline/zzlaws_pkg_history_b1.FnDownHeapSortsTurns", spec := "fnDownHeapSortsTurns", apart := false }
def FnDownHeapSortsTurnsSaid : Prop := fnDownHeapSortsTurnsRow.holds Try.pinned (OpenSpec.ofChange fnDownHeapSortsTurnsSpec)

/-- ITS FALSE NEIGHBOUR: 'it returns false'. Refute it at one input. -/
def fnDownHeapSortsTurnsWrong : ChangeSpec := { name := "fnDownHeapSortsTurns", fn := fun _ => fun
  | [d1, d2, d3, d4] => { results := [.lit (.bool false)], args := [d1, d2, d3, d4] }
  | _ => none }
def FnDownHeapSortsTurnsWrongFalsely : Prop := fnDownHeapSortsTurnsRow.holds Try.pinned (OpenSpec.ofChange fnDownHeapSortsTurnsWrong)

/-- 'zzlaws_pkg_history_b1.FnPlaceReadsBackOwnRecord': WHATEVER THE INPUT: true; the input reads as it did. -/
def fnPlaceReadsBackOwnRecordSpec : ChangeSpec := { name := "fnPlaceReadsBackOwnRecord", fn := fun _ => fun
  | [d1, d2, d3, d4, d5, d6, d7, d8, d9, d10, d11, d12] => { results := [.lit (.bool true)], args := [d1, d2, d3, d4, d5, d6, d7, d8, d9, d10, d11, d12] }
  | _ => none }
def fnPlaceReadsBackOwnRecordRow : OpenClaim := { program := "qxb6000020a", sum := "3e93f52867a2265bab7bdf0cbb7c0a6a4ba4147039ec647c790d5577736fb0b9", func := "example.com/slackline/slackline/zzlaws_pkg_history_b1.FnPlaceReadsBackOwnRecord", spec := "fnPlaceReadsBackOwnRecord", apart := false }
def FnPlaceReadsBackOwnRecordSaid : Prop := fnPlaceReadsBackOwnRecordRow.holds Try.pinned (OpenSpec.ofChange fnPlaceReadsBackOwnRecordSpec)

/-- ITS FALSE NEIGHBOUR: 'it returns false'. Refute it at one input. -/
def fnPlaceReadsBackOwnRecordWrong : ChangeSpec := { name := "fnPlaceReadsBackOwnRecord", fn := fun _ => fun
  | [d1, d2, d3, d4, d5, d6, d7, d8, d9, d10, d11, d12] => { results := [.lit (.bool false)], args := [d1, d2, d3, d4, d5, d6, d7, d8, d9, d10, d11, d12] }
  | _ => none }
def FnPlaceReadsBackOwnRecordWrongFalsely : Prop := fnPlaceReadsBackOwnRecordRow.holds Try.pinned (OpenSpec.ofChange fnPlaceReadsBackOwnRecordWrong)

/-- 'zzlaws_pkg_history_b1.FnPlaceDecodesAStream': WHATEVER THE INPUT: true; the input reads as it did. -/
def fnPlaceDecodesAStreamSpec : ChangeSpec := { name := "fnPlaceDecodesAStream", fn := fun _ => fun
  | [d1, d2, d3, d4] => { results := [.lit (.bool true)], args := [d1, d2, d3, d4] }
  | _ => none }
def fnPlaceDecodesAStreamRow : OpenClaim := { program := "qxb6000020a", sum := "3e93f52867a2265bab7bdf0cbb7c0a6a4ba4147039ec647c790d5577736fb0b9", func := "example.com/slackline/slackline/zzlaws_pkg_history_b1.FnPlaceDecodesAStream", spec := "fnPlaceDecodesAStream", apart := false }
def FnPlaceDecodesAStreamSaid : Prop := fnPlaceDecodesAStreamRow.holds Try.pinned (OpenSpec.ofChange fnPlaceDecodesAStreamSpec)

/-- ITS FALSE NEIGHBOUR: 'it returns false'. Refute it at one input. -/
def fnPlaceDecodesAStreamWrong : ChangeSpec := { name := "fnPlaceDecodesAStream", fn := fun _ => fun
  | [d1, d2, d3, d4] => { results := [.lit (.bool false)], args := [d1, d2, d3, d4] }
  | _ => none }
def FnPlaceDecodesAStreamWrongFalsely : Prop := fnPlaceDecodesAStreamRow.holds Try.pinned (OpenSpec.ofChange fnPlaceDecodesAStreamWrong)

end Rows
end Go.Proofs.Qxb6000020a
