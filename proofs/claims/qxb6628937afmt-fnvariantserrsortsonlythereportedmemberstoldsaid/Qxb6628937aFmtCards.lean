/-
  DERIVED. GIVEN WITH THE SEED: THE CARDS: each row of Qxb6628937aFmtRows.lean that lists a variable, with what it lists TIED to the program's text (the seventh form; the later family's looks); each row that meets fmt, with fmt's text TOLD by the authors' own Lean function (tested against real Go, not proved from fmt's source: count such statements apart). THE CARD IS WHAT COUNTS. Prove the row's statement (the work); the ties are given (Qxb6628937aFmtTie.lean); close each card by the builder's one call (the guide's Derived/Test/ToyasCard.lean, 'card_holds'). Laid BY PROGRAM, IN A SANDBOX (cutbox-door.mjs). By AI agents, Wed Nov 11 2026. No macro, syntax, notation, axiom, sorry.
-/
import Derived.Test.Qxb6628937aFmtRows
import GoSem.ClaimSeven
namespace Go.Proofs.Qxb6628937aFmt
namespace Rows

/-- THE TOLD CARD OF 'zzlaws_pkg_canonical_b1.FnVariantsErrReportsExactlyWhenSomeNameHasCaseVariants'. -/
def fnVariantsErrReportsExactlyWhenSomeNameHasCaseVariantsCard : Claim7 := { stood := { row := fnVariantsErrReportsExactlyWhenSomeNameHasCaseVariantsRow, standIns := [], harness := (true, "f8ca8ee11c55c93c200ad0c9eb5cd580bfce2dd6937561d0e33e6a1d39c9e0a1"), looks := false }, told := true, goes := false }
def FnVariantsErrReportsExactlyWhenSomeNameHasCaseVariantsToldSaid : Prop := Claim7.holds Tryf.pinned (.plain (OpenSpec.ofChange fnVariantsErrReportsExactlyWhenSomeNameHasCaseVariantsSpec)) fnVariantsErrReportsExactlyWhenSomeNameHasCaseVariantsCard
/-- ITS FALSE NEIGHBOUR. Refute it at one input. -/
def FnVariantsErrReportsExactlyWhenSomeNameHasCaseVariantsToldWrongFalsely : Prop := Claim7.holds Tryf.pinned (.plain (OpenSpec.ofChange fnVariantsErrReportsExactlyWhenSomeNameHasCaseVariantsWrong)) fnVariantsErrReportsExactlyWhenSomeNameHasCaseVariantsCard

/-- THE TOLD CARD OF 'zzlaws_pkg_canonical_b1.FnVariantsErrSortsOnlyTheReportedMembers'. -/
def fnVariantsErrSortsOnlyTheReportedMembersCard : Claim7 := { stood := { row := fnVariantsErrSortsOnlyTheReportedMembersRow, standIns := [], harness := (true, "f8ca8ee11c55c93c200ad0c9eb5cd580bfce2dd6937561d0e33e6a1d39c9e0a1"), looks := false }, told := true, goes := false }
def FnVariantsErrSortsOnlyTheReportedMembersToldSaid : Prop := Claim7.holds Tryf.pinned (.plain (OpenSpec.ofChange fnVariantsErrSortsOnlyTheReportedMembersSpec)) fnVariantsErrSortsOnlyTheReportedMembersCard
/-- ITS FALSE NEIGHBOUR. Refute it at one input. -/
def FnVariantsErrSortsOnlyTheReportedMembersToldWrongFalsely : Prop := Claim7.holds Tryf.pinned (.plain (OpenSpec.ofChange fnVariantsErrSortsOnlyTheReportedMembersWrong)) fnVariantsErrSortsOnlyTheReportedMembersCard
end Rows
end Go.Proofs.Qxb6628937aFmt
