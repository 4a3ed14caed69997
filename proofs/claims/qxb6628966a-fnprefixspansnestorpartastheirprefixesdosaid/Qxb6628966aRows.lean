/-
  No cell of these rows narrows 'for every input' (looked for: loops, veiled, ifaces, maps, wideKeys, modest, calm, conditions, laid).
  DERIVED. THE GIVEN ROWS OF THIS SEAT. 2 by the template 'for every input the law returns true; each argument reads behind the call as it read before'; 0 by the template 'total and deterministic' (their statements: Qxb6628966aTotals.lean).
  GIVEN WITH THE SEED: the statements are not yours to turn. If you find one false, say at which input.
  Laid BY PROGRAM, IN A SANDBOX (cutbox-rows.mjs): the forced cells as the released guide's own fill.sh prints them over the translation c0ecd39535a5fc8c… (all of the seat's roots in one cut). By AI agents, Wed Nov 11 2026. No macro, syntax, notation, axiom, sorry.
-/
import Derived.Test.Qxb6628966aChecked
import GoSem.Claim
import GoSem.ClaimJoined
import GoSem.ClaimMapViews
import Derived.JoinedTies
import Derived.KernelRfl
namespace Go.Proofs.Qxb6628966a
/- THE CELL 'sum', in the pinned program and in every row, IS THE sha256 OF THE DUMP (.gsa) THAT Qxb6628966aProg.lean LOADS. Nothing in Lean hashes anything: it is a label: what it is worth is what the hold of that sum in a sandbox is worth. -/
noncomputable def Try.pinned : Pinned := { name := "qxb6628966a", sum := "c0ecd39535a5fc8c72ec1589787166f7bc1ea910d24f4035f709be02fea795a5", checked := Try.checked }
namespace Rows
def none {H : Type} : Left H := { results := [], args := [] }

/-- 'zzlaws_internal_history_b1.FnPrefixSpanIsExactlyTheNamesWithThePrefix': WHATEVER THE INPUT: true; the input reads as it did. -/
def fnPrefixSpanIsExactlyTheNamesWithThePrefixSpec : ChangeSpec := { name := "fnPrefixSpanIsExactlyTheNamesWithThePrefix", fn := fun _ => fun
  | [d1, d2] => { results := [.lit (.bool true)], args := [d1, d2] }
  | _ => none }
def fnPrefixSpanIsExactlyTheNamesWithThePrefixRow : OpenClaim := { program := "qxb6628966a", sum := "c0ecd39535a5fc8c72ec1589787166f7bc1ea910d24f4035f709be02fea795a5", func := "example.com/serialine/serialine/zzlaws_internal_history_b1.FnPrefixSpanIsExactlyTheNamesWithThePrefix", spec := "fnPrefixSpanIsExactlyTheNamesWithThePrefix", apart := false }
def FnPrefixSpanIsExactlyTheNamesWithThePrefixSaid : Prop := fnPrefixSpanIsExactlyTheNamesWithThePrefixRow.holds Try.pinned (OpenSpec.ofChange fnPrefixSpanIsExactlyTheNamesWithThePrefixSpec)

/-- ITS FALSE NEIGHBOUR: 'it returns false'. Refute it at one input. -/
def fnPrefixSpanIsExactlyTheNamesWithThePrefixWrong : ChangeSpec := { name := "fnPrefixSpanIsExactlyTheNamesWithThePrefix", fn := fun _ => fun
  | [d1, d2] => { results := [.lit (.bool false)], args := [d1, d2] }
  | _ => none }
def FnPrefixSpanIsExactlyTheNamesWithThePrefixWrongFalsely : Prop := fnPrefixSpanIsExactlyTheNamesWithThePrefixRow.holds Try.pinned (OpenSpec.ofChange fnPrefixSpanIsExactlyTheNamesWithThePrefixWrong)

/-- 'zzlaws_internal_history_b1.FnPrefixSpansNestOrPartAsTheirPrefixesDo': WHATEVER THE INPUT: true; the input reads as it did. -/
def fnPrefixSpansNestOrPartAsTheirPrefixesDoSpec : ChangeSpec := { name := "fnPrefixSpansNestOrPartAsTheirPrefixesDo", fn := fun _ => fun
  | [d1, d2] => { results := [.lit (.bool true)], args := [d1, d2] }
  | _ => none }
def fnPrefixSpansNestOrPartAsTheirPrefixesDoRow : OpenClaim := { program := "qxb6628966a", sum := "c0ecd39535a5fc8c72ec1589787166f7bc1ea910d24f4035f709be02fea795a5", func := "example.com/serialine/serialine/zzlaws_internal_history_b1.FnPrefixSpansNestOrPartAsTheirPrefixesDo", spec := "fnPrefixSpansNestOrPartAsTheirPrefixesDo", apart := false }
def FnPrefixSpansNestOrPartAsTheirPrefixesDoSaid : Prop := fnPrefixSpansNestOrPartAsTheirPrefixesDoRow.holds Try.pinned (OpenSpec.ofChange fnPrefixSpansNestOrPartAsTheirPrefixesDoSpec)

/-- ITS FALSE NEIGHBOUR: 'it returns false'. Refute it at one input. -/
def fnPrefixSpansNestOrPartAsTheirPrefixesDoWrong : ChangeSpec := { name := "fnPrefixSpansNestOrPartAsTheirPrefixesDo", fn := fun _ => fun
  | [d1, d2] => { results := [.lit (.bool false)], args := [d1, d2] }
  | _ => none }
def FnPrefixSpansNestOrPartAsTheirPrefixesDoWrongFalsely : Prop := fnPrefixSpansNestOrPartAsTheirPrefixesDoRow.holds Try.pinned (OpenSpec.ofChange fnPrefixSpansNestOrPartAsTheirPrefixesDoWrong)

end Rows
end Go.Proofs.Qxb6628966a
