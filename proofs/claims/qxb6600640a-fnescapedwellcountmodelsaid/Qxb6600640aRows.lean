/-
  No cell of these rows narrows 'for every input' (looked for: loops, veiled, ifaces, maps, wideKeys, modest, calm, conditions, laid).
  DERIVED. THE GIVEN ROWS OF THIS SEAT. 3 by the template 'for every input the law returns true; each argument reads behind the call as it read before'; 0 by the template 'total and deterministic' (their statements: Qxb6600640aTotals.lean).
  GIVEN WITH THE SEED: the statements are not yours to turn. If you find one false, say at which input.
  Laid BY PROGRAM, IN A SANDBOX (cutbox-rows.mjs): the forced cells as the released guide's own fill.sh prints them over the translation 5037a2fc2d7e71a6… (all of the seat's roots in one cut). By AI agents, Wed Nov 11 2026. No macro, syntax, notation, axiom, sorry.
-/
import Derived.Test.Qxb6600640aChecked
import GoSem.Claim
import GoSem.ClaimJoined
import GoSem.ClaimMapViews
import Derived.JoinedTies
import Derived.KernelRfl
namespace Go.Proofs.Qxb6600640a
/- THE CELL 'sum', in the pinned program and in every row, IS THE sha256 OF THE DUMP (.gsa) THAT Qxb6600640aProg.lean LOADS. Nothing in Lean hashes anything: it is a label: what it is worth is what the hold of that sum in a sandbox is worth. -/
noncomputable def Try.pinned : Pinned := { name := "qxb6600640a", sum := "5037a2fc2d7e71a6324cd322b22a3a17c83aac5895bb116c7c0b871f50ae7c9e", checked := Try.checked }
namespace Rows
def none {H : Type} : Left H := { results := [], args := [] }

/-- 'zzlaws_internal_jsonpatch_b1.FnEscapedWellCountModel': WHATEVER THE INPUT: true; the input reads as it did. -/
def fnEscapedWellCountModelSpec : ChangeSpec := { name := "fnEscapedWellCountModel", fn := fun _ => fun
  | [d] => { results := [.lit (.bool true)], args := [d] }
  | _ => none }
def fnEscapedWellCountModelRow : OpenClaim := { program := "qxb6600640a", sum := "5037a2fc2d7e71a6324cd322b22a3a17c83aac5895bb116c7c0b871f50ae7c9e", func := "example.com/edict-for-admission/edict-for-admission/zzlaws_internal_jsonpatch_b1.FnEscapedWellCountModel", spec := "fnEscapedWellCountModel", apart := false }
def FnEscapedWellCountModelSaid : Prop := fnEscapedWellCountModelRow.holds Try.pinned (OpenSpec.ofChange fnEscapedWellCountModelSpec)

/-- ITS FALSE NEIGHBOUR: 'it returns false'. Refute it at one input. -/
def fnEscapedWellCountModelWrong : ChangeSpec := { name := "fnEscapedWellCountModel", fn := fun _ => fun
  | [d] => { results := [.lit (.bool false)], args := [d] }
  | _ => none }
def FnEscapedWellCountModelWrongFalsely : Prop := fnEscapedWellCountModelRow.holds Try.pinned (OpenSpec.ofChange fnEscapedWellCountModelWrong)

/-- 'zzlaws_internal_jsonpatch_b1.FnEscapedWellAcceptsEveryEscapedToken': WHATEVER THE INPUT: true; the input reads as it did. -/
def fnEscapedWellAcceptsEveryEscapedTokenSpec : ChangeSpec := { name := "fnEscapedWellAcceptsEveryEscapedToken", fn := fun _ => fun
  | [d] => { results := [.lit (.bool true)], args := [d] }
  | _ => none }
def fnEscapedWellAcceptsEveryEscapedTokenRow : OpenClaim := { program := "qxb6600640a", sum := "5037a2fc2d7e71a6324cd322b22a3a17c83aac5895bb116c7c0b871f50ae7c9e", func := "example.com/edict-for-admission/edict-for-admission/zzlaws_internal_jsonpatch_b1.FnEscapedWellAcceptsEveryEscapedToken", spec := "fnEscapedWellAcceptsEveryEscapedToken", apart := false }
def FnEscapedWellAcceptsEveryEscapedTokenSaid : Prop := fnEscapedWellAcceptsEveryEscapedTokenRow.holds Try.pinned (OpenSpec.ofChange fnEscapedWellAcceptsEveryEscapedTokenSpec)

/-- ITS FALSE NEIGHBOUR: 'it returns false'. Refute it at one input. -/
def fnEscapedWellAcceptsEveryEscapedTokenWrong : ChangeSpec := { name := "fnEscapedWellAcceptsEveryEscapedToken", fn := fun _ => fun
  | [d] => { results := [.lit (.bool false)], args := [d] }
  | _ => none }
def FnEscapedWellAcceptsEveryEscapedTokenWrongFalsely : Prop := fnEscapedWellAcceptsEveryEscapedTokenRow.holds Try.pinned (OpenSpec.ofChange fnEscapedWellAcceptsEveryEscapedTokenWrong)

/-- 'zzlaws_internal_jsonpatch_b1.FnEscapedWellConcatAndTrailingTilde': WHATEVER THE INPUT: true; the input reads as it did. -/
def fnEscapedWellConcatAndTrailingTildeSpec : ChangeSpec := { name := "fnEscapedWellConcatAndTrailingTilde", fn := fun _ => fun
  | [d1, d2] => { results := [.lit (.bool true)], args := [d1, d2] }
  | _ => none }
def fnEscapedWellConcatAndTrailingTildeRow : OpenClaim := { program := "qxb6600640a", sum := "5037a2fc2d7e71a6324cd322b22a3a17c83aac5895bb116c7c0b871f50ae7c9e", func := "example.com/edict-for-admission/edict-for-admission/zzlaws_internal_jsonpatch_b1.FnEscapedWellConcatAndTrailingTilde", spec := "fnEscapedWellConcatAndTrailingTilde", apart := false }
def FnEscapedWellConcatAndTrailingTildeSaid : Prop := fnEscapedWellConcatAndTrailingTildeRow.holds Try.pinned (OpenSpec.ofChange fnEscapedWellConcatAndTrailingTildeSpec)

/-- ITS FALSE NEIGHBOUR: 'it returns false'. Refute it at one input. -/
def fnEscapedWellConcatAndTrailingTildeWrong : ChangeSpec := { name := "fnEscapedWellConcatAndTrailingTilde", fn := fun _ => fun
  | [d1, d2] => { results := [.lit (.bool false)], args := [d1, d2] }
  | _ => none }
def FnEscapedWellConcatAndTrailingTildeWrongFalsely : Prop := fnEscapedWellConcatAndTrailingTildeRow.holds Try.pinned (OpenSpec.ofChange fnEscapedWellConcatAndTrailingTildeWrong)

end Rows
end Go.Proofs.Qxb6600640a
