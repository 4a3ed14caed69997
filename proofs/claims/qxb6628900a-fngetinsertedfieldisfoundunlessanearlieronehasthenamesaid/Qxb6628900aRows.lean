/-
  No cell of these rows narrows 'for every input' (looked for: loops, veiled, ifaces, maps, wideKeys, modest, calm, conditions, laid).
  DERIVED. THE GIVEN ROWS OF THIS SEAT. 2 by the template 'for every input the law returns true; each argument reads behind the call as it read before'; 0 by the template 'total and deterministic' (their statements: Qxb6628900aTotals.lean).
  GIVEN WITH THE SEED: the statements are not yours to turn. If you find one false, say at which input.
  Laid BY PROGRAM, IN A SANDBOX (cutbox-rows.mjs): the forced cells as the released guide's own fill.sh prints them over the translation b71450d42ac9816e… (all of the seat's roots in one cut). By AI agents, Wed Nov 11 2026. No macro, syntax, notation, axiom, sorry.
-/
import Derived.Test.Qxb6628900aChecked
import GoSem.Claim
import GoSem.ClaimJoined
import GoSem.ClaimMapViews
import Derived.JoinedTies
import Derived.KernelRfl
namespace Go.Proofs.Qxb6628900a
/- THE CELL 'sum', in the pinned program and in every row, IS THE sha256 OF THE DUMP (.gsa) THAT Qxb6628900aProg.lean LOADS. Nothing in Lean hashes anything: it is a label: what it is worth is what the hold of that sum in a sandbox is worth. -/
noncomputable def Try.pinned : Pinned := { name := "qxb6628900a", sum := "b71450d42ac9816e0036125d7fb2b12660f1d4d504a81355314721001b9c5863", checked := Try.checked }
namespace Rows
def none {H : Type} : Left H := { results := [], args := [] }

/-- 'zzlaws_internal_http1_b1.FnGetInsertedFieldIsFoundUnlessAnEarlierOneHasTheName': WHATEVER THE INPUT: true; the input reads as it did. -/
def fnGetInsertedFieldIsFoundUnlessAnEarlierOneHasTheNameSpec : ChangeSpec := { name := "fnGetInsertedFieldIsFoundUnlessAnEarlierOneHasTheName", fn := fun _ => fun
  | [d1, d2, d3, d4] => { results := [.lit (.bool true)], args := [d1, d2, d3, d4] }
  | _ => none }
def fnGetInsertedFieldIsFoundUnlessAnEarlierOneHasTheNameRow : OpenClaim := { program := "qxb6628900a", sum := "b71450d42ac9816e0036125d7fb2b12660f1d4d504a81355314721001b9c5863", func := "example.com/libmcptel/libmcptel/zzlaws_internal_http1_b1.FnGetInsertedFieldIsFoundUnlessAnEarlierOneHasTheName", spec := "fnGetInsertedFieldIsFoundUnlessAnEarlierOneHasTheName", apart := false }
def FnGetInsertedFieldIsFoundUnlessAnEarlierOneHasTheNameSaid : Prop := fnGetInsertedFieldIsFoundUnlessAnEarlierOneHasTheNameRow.holds Try.pinned (OpenSpec.ofChange fnGetInsertedFieldIsFoundUnlessAnEarlierOneHasTheNameSpec)

/-- ITS FALSE NEIGHBOUR: 'it returns false'. Refute it at one input. -/
def fnGetInsertedFieldIsFoundUnlessAnEarlierOneHasTheNameWrong : ChangeSpec := { name := "fnGetInsertedFieldIsFoundUnlessAnEarlierOneHasTheName", fn := fun _ => fun
  | [d1, d2, d3, d4] => { results := [.lit (.bool false)], args := [d1, d2, d3, d4] }
  | _ => none }
def FnGetInsertedFieldIsFoundUnlessAnEarlierOneHasTheNameWrongFalsely : Prop := fnGetInsertedFieldIsFoundUnlessAnEarlierOneHasTheNameRow.holds Try.pinned (OpenSpec.ofChange fnGetInsertedFieldIsFoundUnlessAnEarlierOneHasTheNameWrong)

/-- 'zzlaws_internal_http1_b1.FnGetIgnoresLetterCaseOnBothSides': WHATEVER THE INPUT: true; the input reads as it did. -/
def fnGetIgnoresLetterCaseOnBothSidesSpec : ChangeSpec := { name := "fnGetIgnoresLetterCaseOnBothSides", fn := fun _ => fun
  | [d1, d2] => { results := [.lit (.bool true)], args := [d1, d2] }
  | _ => none }
def fnGetIgnoresLetterCaseOnBothSidesRow : OpenClaim := { program := "qxb6628900a", sum := "b71450d42ac9816e0036125d7fb2b12660f1d4d504a81355314721001b9c5863", func := "example.com/libmcptel/libmcptel/zzlaws_internal_http1_b1.FnGetIgnoresLetterCaseOnBothSides", spec := "fnGetIgnoresLetterCaseOnBothSides", apart := false }
def FnGetIgnoresLetterCaseOnBothSidesSaid : Prop := fnGetIgnoresLetterCaseOnBothSidesRow.holds Try.pinned (OpenSpec.ofChange fnGetIgnoresLetterCaseOnBothSidesSpec)

/-- ITS FALSE NEIGHBOUR: 'it returns false'. Refute it at one input. -/
def fnGetIgnoresLetterCaseOnBothSidesWrong : ChangeSpec := { name := "fnGetIgnoresLetterCaseOnBothSides", fn := fun _ => fun
  | [d1, d2] => { results := [.lit (.bool false)], args := [d1, d2] }
  | _ => none }
def FnGetIgnoresLetterCaseOnBothSidesWrongFalsely : Prop := fnGetIgnoresLetterCaseOnBothSidesRow.holds Try.pinned (OpenSpec.ofChange fnGetIgnoresLetterCaseOnBothSidesWrong)

end Rows
end Go.Proofs.Qxb6628900a
