/-
  DERIVED. GIVEN WITH THE SEED: THE CARDS: each row of Qxb6609020aFmtRows.lean that lists a variable, with what it lists TIED to the program's text (the seventh form; the later family's looks); each row that meets fmt, with fmt's text TOLD by the authors' own Lean function (tested against real Go, not proved from fmt's source: count such statements apart). THE CARD IS WHAT COUNTS. Prove the row's statement (the work); the ties are given (Qxb6609020aFmtTie.lean); close each card by the builder's one call (the guide's Derived/Test/ToyasCard.lean, 'card_holds'). Laid BY PROGRAM, IN A SANDBOX (cutbox-door.mjs). By AI agents, Wed Nov 11 2026. No macro, syntax, notation, axiom, sorry.
-/
import Derived.Test.Qxb6609020aFmtRows
import GoSem.ClaimSeven
namespace Go.Proofs.Qxb6609020aFmt
namespace Rows

/-- THE TOLD CARD OF 'zzlaws_pkg_layout_b1.FnDealWholeAnswer'. -/
def fnDealWholeAnswerCard : Claim7 := { stood := { row := fnDealWholeAnswerRow, standIns := [], harness := (true, "f6272a3518f9d75a171bf0bf089e39d854f5b4c3f9d1c0efaf1c0d9bbd541a5d"), looks := false }, told := true, goes := false }
def FnDealWholeAnswerToldSaid : Prop := Claim7.holds Tryf.pinned (.plain (OpenSpec.ofChange fnDealWholeAnswerSpec)) fnDealWholeAnswerCard
/-- ITS FALSE NEIGHBOUR. Refute it at one input. -/
def FnDealWholeAnswerToldWrongFalsely : Prop := Claim7.holds Tryf.pinned (.plain (OpenSpec.ofChange fnDealWholeAnswerWrong)) fnDealWholeAnswerCard

/-- THE TOLD CARD OF 'zzlaws_pkg_layout_b1.FnDealBalancedShares'. -/
def fnDealBalancedSharesCard : Claim7 := { stood := { row := fnDealBalancedSharesRow, standIns := [], harness := (true, "f6272a3518f9d75a171bf0bf089e39d854f5b4c3f9d1c0efaf1c0d9bbd541a5d"), looks := false }, told := true, goes := false }
def FnDealBalancedSharesToldSaid : Prop := Claim7.holds Tryf.pinned (.plain (OpenSpec.ofChange fnDealBalancedSharesSpec)) fnDealBalancedSharesCard
/-- ITS FALSE NEIGHBOUR. Refute it at one input. -/
def FnDealBalancedSharesToldWrongFalsely : Prop := Claim7.holds Tryf.pinned (.plain (OpenSpec.ofChange fnDealBalancedSharesWrong)) fnDealBalancedSharesCard
end Rows
end Go.Proofs.Qxb6609020aFmt
