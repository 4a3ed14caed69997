/-
  NARROWER THAN 'FOR EVERY INPUT', by the rows' own cells (each row's printed sentence says how): FnVariantsErrReportsExactlyWhenSomeNameHasCaseVariants: maps · FnVariantsErrSortsOnlyTheReportedMembers: maps.
  DERIVED. THE GIVEN ROWS OF THIS SEAT. 2 by the template 'for every input the law returns true; each argument reads behind the call as it read before'; 0 by the template 'total and deterministic' (their statements: Qxb6628937aFmtTotals.lean).
  GIVEN WITH THE SEED: the statements are not yours to turn. If you find one false, say at which input.
  Laid BY PROGRAM, IN A SANDBOX (cutbox-rows.mjs): the forced cells as the released guide's own fill.sh prints them over the translation 7045544c4b492e5e… (all of the seat's roots in one cut). By AI agents, Wed Nov 11 2026. No macro, syntax, notation, axiom, sorry.
-/
import Derived.Test.Qxb6628937aFmtChecked
import GoSem.Claim
import GoSem.ClaimJoined
import GoSem.ClaimMapViews
import Derived.JoinedTies
import Derived.KernelRfl
namespace Go.Proofs.Qxb6628937aFmt
/- THE CELL 'sum', in the pinned program and in every row, IS THE sha256 OF THE DUMP (.gsa) THAT Qxb6628937aFmtProg.lean LOADS. Nothing in Lean hashes anything: it is a label: what it is worth is what the hold of that sum in a sandbox is worth. -/
noncomputable def Tryf.pinned : Pinned := { name := "qxb6628937afmt", sum := "7045544c4b492e5e231f744053c51fad58383e2c205009676e4d704aca70d17d", checked := Tryf.checked }
namespace Rows
def none {H : Type} : Left H := { results := [], args := [] }

/-- 'zzlaws_pkg_canonical_b1.FnVariantsErrReportsExactlyWhenSomeNameHasCaseVariants': WHATEVER THE INPUT: true; the input reads as it did. -/
def fnVariantsErrReportsExactlyWhenSomeNameHasCaseVariantsSpec : ChangeSpec := { name := "fnVariantsErrReportsExactlyWhenSomeNameHasCaseVariants", fn := fun _ => fun
  | [d1, d2, d3] => { results := [.lit (.bool true)], args := [d1, d2, d3] }
  | _ => none }
def fnVariantsErrReportsExactlyWhenSomeNameHasCaseVariantsRow : OpenClaim := { program := "qxb6628937afmt", sum := "7045544c4b492e5e231f744053c51fad58383e2c205009676e4d704aca70d17d", func := "example.com/tollgate/tollgate/zzlaws_pkg_canonical_b1.FnVariantsErrReportsExactlyWhenSomeNameHasCaseVariants", spec := "fnVariantsErrReportsExactlyWhenSomeNameHasCaseVariants", stops := ["fmt.errorf"], inPlace := ["fmt.errorf"], recurses := true, maps := true, apart := false }
/-- NO THEOREM (fmt's text is open here; it may be false): for the released tool's asking of the row's closed facts alone. THE STATEMENT IS 'FnVariantsErrReportsExactlyWhenSomeNameHasCaseVariantsToldSaid' (Qxb6628937aFmtCards.lean). -/
def FnVariantsErrReportsExactlyWhenSomeNameHasCaseVariantsFormAsk : Prop := fnVariantsErrReportsExactlyWhenSomeNameHasCaseVariantsRow.holds Tryf.pinned (OpenSpec.ofChange fnVariantsErrReportsExactlyWhenSomeNameHasCaseVariantsSpec)

/-- ITS FALSE NEIGHBOUR: 'it returns false'. Refute it at one input. -/
def fnVariantsErrReportsExactlyWhenSomeNameHasCaseVariantsWrong : ChangeSpec := { name := "fnVariantsErrReportsExactlyWhenSomeNameHasCaseVariants", fn := fun _ => fun
  | [d1, d2, d3] => { results := [.lit (.bool false)], args := [d1, d2, d3] }
  | _ => none }
def FnVariantsErrReportsExactlyWhenSomeNameHasCaseVariantsWrongFormAsk : Prop := fnVariantsErrReportsExactlyWhenSomeNameHasCaseVariantsRow.holds Tryf.pinned (OpenSpec.ofChange fnVariantsErrReportsExactlyWhenSomeNameHasCaseVariantsWrong)

/-- 'zzlaws_pkg_canonical_b1.FnVariantsErrSortsOnlyTheReportedMembers': WHATEVER THE INPUT: true; the input reads as it did. -/
def fnVariantsErrSortsOnlyTheReportedMembersSpec : ChangeSpec := { name := "fnVariantsErrSortsOnlyTheReportedMembers", fn := fun _ => fun
  | [d1, d2, d3] => { results := [.lit (.bool true)], args := [d1, d2, d3] }
  | _ => none }
def fnVariantsErrSortsOnlyTheReportedMembersRow : OpenClaim := { program := "qxb6628937afmt", sum := "7045544c4b492e5e231f744053c51fad58383e2c205009676e4d704aca70d17d", func := "example.com/tollgate/tollgate/zzlaws_pkg_canonical_b1.FnVariantsErrSortsOnlyTheReportedMembers", spec := "fnVariantsErrSortsOnlyTheReportedMembers", stops := ["fmt.errorf"], inPlace := ["fmt.errorf"], recurses := true, maps := true, apart := false }
/-- NO THEOREM (fmt's text is open here; it may be false): for the released tool's asking of the row's closed facts alone. THE STATEMENT IS 'FnVariantsErrSortsOnlyTheReportedMembersToldSaid' (Qxb6628937aFmtCards.lean). -/
def FnVariantsErrSortsOnlyTheReportedMembersFormAsk : Prop := fnVariantsErrSortsOnlyTheReportedMembersRow.holds Tryf.pinned (OpenSpec.ofChange fnVariantsErrSortsOnlyTheReportedMembersSpec)

/-- ITS FALSE NEIGHBOUR: 'it returns false'. Refute it at one input. -/
def fnVariantsErrSortsOnlyTheReportedMembersWrong : ChangeSpec := { name := "fnVariantsErrSortsOnlyTheReportedMembers", fn := fun _ => fun
  | [d1, d2, d3] => { results := [.lit (.bool false)], args := [d1, d2, d3] }
  | _ => none }
def FnVariantsErrSortsOnlyTheReportedMembersWrongFormAsk : Prop := fnVariantsErrSortsOnlyTheReportedMembersRow.holds Tryf.pinned (OpenSpec.ofChange fnVariantsErrSortsOnlyTheReportedMembersWrong)

end Rows
end Go.Proofs.Qxb6628937aFmt
