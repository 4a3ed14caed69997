/-
  No cell of these rows narrows 'for every input' (looked for: loops, veiled, ifaces, maps, wideKeys, modest, calm, conditions, laid).
  DERIVED. THE GIVEN ROWS OF THIS SEAT. 2 by the template 'for every input the law returns true; each argument reads behind the call as it read before'; 0 by the template 'total and deterministic' (their statements: Qxb6629990aTotals.lean).
  GIVEN WITH THE SEED: the statements are not yours to turn. If you find one false, say at which input.
  Laid BY PROGRAM, IN A SANDBOX (cutbox-rows.mjs): the forced cells as the released guide's own fill.sh prints them over the translation fb5ad293893b0218… (all of the seat's roots in one cut). By AI agents, Wed Nov 11 2026. No macro, syntax, notation, axiom, sorry.
-/
import Derived.Test.Qxb6629990aChecked
import GoSem.Claim
import GoSem.ClaimJoined
import GoSem.ClaimMapViews
import Derived.JoinedTies
import Derived.KernelRfl
namespace Go.Proofs.Qxb6629990a
/- THE CELL 'sum', in the pinned program and in every row, IS THE sha256 OF THE DUMP (.gsa) THAT Qxb6629990aProg.lean LOADS. Nothing in Lean hashes anything: it is a label: what it is worth is what the hold of that sum in a sandbox is worth. -/
noncomputable def Try.pinned : Pinned := { name := "qxb6629990a", sum := "fb5ad293893b0218f6fc660bf8b244d654e90f945bd4c33baa32c8694c0c9212", checked := Try.checked }
namespace Rows
def none {H : Type} : Left H := { results := [], args := [] }

/-- 'zzlaws_internal_protocol_b1.FnParseUintMatchesDecimalModel': WHATEVER THE INPUT: true; the input reads as it did. -/
def fnParseUintMatchesDecimalModelSpec : ChangeSpec := { name := "fnParseUintMatchesDecimalModel", fn := fun _ => fun
  | [d1, d2] => { results := [.lit (.bool true)], args := [d1, d2] }
  | _ => none }
def fnParseUintMatchesDecimalModelRow : OpenClaim := { program := "qxb6629990a", sum := "fb5ad293893b0218f6fc660bf8b244d654e90f945bd4c33baa32c8694c0c9212", func := "example.com/rowcall/rowcall/zzlaws_internal_protocol_b1.FnParseUintMatchesDecimalModel", spec := "fnParseUintMatchesDecimalModel", apart := false }
def FnParseUintMatchesDecimalModelSaid : Prop := fnParseUintMatchesDecimalModelRow.holds Try.pinned (OpenSpec.ofChange fnParseUintMatchesDecimalModelSpec)

/-- ITS FALSE NEIGHBOUR: 'it returns false'. Refute it at one input. -/
def fnParseUintMatchesDecimalModelWrong : ChangeSpec := { name := "fnParseUintMatchesDecimalModel", fn := fun _ => fun
  | [d1, d2] => { results := [.lit (.bool false)], args := [d1, d2] }
  | _ => none }
def FnParseUintMatchesDecimalModelWrongFalsely : Prop := fnParseUintMatchesDecimalModelRow.holds Try.pinned (OpenSpec.ofChange fnParseUintMatchesDecimalModelWrong)

/-- 'zzlaws_internal_protocol_b1.FnParseUintJoinAtAnyCut': WHATEVER THE INPUT: true; the input reads as it did. -/
def fnParseUintJoinAtAnyCutSpec : ChangeSpec := { name := "fnParseUintJoinAtAnyCut", fn := fun _ => fun
  | [d1, d2, d3] => { results := [.lit (.bool true)], args := [d1, d2, d3] }
  | _ => none }
def fnParseUintJoinAtAnyCutRow : OpenClaim := { program := "qxb6629990a", sum := "fb5ad293893b0218f6fc660bf8b244d654e90f945bd4c33baa32c8694c0c9212", func := "example.com/rowcall/rowcall/zzlaws_internal_protocol_b1.FnParseUintJoinAtAnyCut", spec := "fnParseUintJoinAtAnyCut", apart := false }
def FnParseUintJoinAtAnyCutSaid : Prop := fnParseUintJoinAtAnyCutRow.holds Try.pinned (OpenSpec.ofChange fnParseUintJoinAtAnyCutSpec)

/-- ITS FALSE NEIGHBOUR: 'it returns false'. Refute it at one input. -/
def fnParseUintJoinAtAnyCutWrong : ChangeSpec := { name := "fnParseUintJoinAtAnyCut", fn := fun _ => fun
  | [d1, d2, d3] => { results := [.lit (.bool false)], args := [d1, d2, d3] }
  | _ => none }
def FnParseUintJoinAtAnyCutWrongFalsely : Prop := fnParseUintJoinAtAnyCutRow.holds Try.pinned (OpenSpec.ofChange fnParseUintJoinAtAnyCutWrong)

end Rows
end Go.Proofs.Qxb6629990a
