/-
  DERIVED. GIVEN WITH THE SEED: THE CARDS: each row of Qxb6613521aFmtRows.lean that lists a variable, with what it lists TIED to the program's text (the seventh form; the later family's looks); each row that meets fmt, with fmt's text TOLD by the authors' own Lean function (tested against real Go, not proved from fmt's source: count such statements apart). THE CARD IS WHAT COUNTS. Prove the row's statement (the work); the ties are given (Qxb6613521aFmtTie.lean); close each card by the builder's one call (the guide's Derived/Test/ToyasCard.lean, 'card_holds'). Laid BY PROGRAM, IN A SANDBOX (cutbox-door.mjs). By AI agents, Wed Nov 11 2026. No macro, syntax, notation, axiom, sorry.
-/
import Derived.Test.Qxb6613521aFmtRows
import GoSem.ClaimSeven
namespace Go.Proofs.Qxb6613521aFmt
namespace Rows

/-- THE TOLD AND TIED CARD OF 'zzlaws_root_b1.FnCanLoseKeepsEveryLossWhenAFreshLogUnitJoins'. -/
def fnCanLoseKeepsEveryLossWhenAFreshLogUnitJoinsCard : Claim7 := { stood := { row := fnCanLoseKeepsEveryLossWhenAFreshLogUnitJoinsRow, standIns := [], harness := (true, "3ccfcd82a78ca5d7e89cbc481badf391456de44a053dc99d75aa7e837f109bf4"), looks := true }, told := true, laidByText := true, laidKinds := [.sentinel], laidTests := true, laidLooks := .later, goes := false }
def FnCanLoseKeepsEveryLossWhenAFreshLogUnitJoinsToldSaid : Prop := Claim7.holds Tryf.pinned (.plain (OpenSpec.ofChange fnCanLoseKeepsEveryLossWhenAFreshLogUnitJoinsSpec)) fnCanLoseKeepsEveryLossWhenAFreshLogUnitJoinsCard
/-- ITS FALSE NEIGHBOUR. Refute it at one input. -/
def FnCanLoseKeepsEveryLossWhenAFreshLogUnitJoinsToldWrongFalsely : Prop := Claim7.holds Tryf.pinned (.plain (OpenSpec.ofChange fnCanLoseKeepsEveryLossWhenAFreshLogUnitJoinsWrong)) fnCanLoseKeepsEveryLossWhenAFreshLogUnitJoinsCard

/-- THE TOLD CARD OF 'zzlaws_root_b1.FnSequencerErrorWrapsTheErrorItIsGiven'. -/
def fnSequencerErrorWrapsTheErrorItIsGivenCard : Claim7 := { stood := { row := fnSequencerErrorWrapsTheErrorItIsGivenRow, standIns := [], harness := (true, "3ccfcd82a78ca5d7e89cbc481badf391456de44a053dc99d75aa7e837f109bf4"), looks := true }, told := true, goes := false }
def FnSequencerErrorWrapsTheErrorItIsGivenToldSaid : Prop := Claim7.holds Tryf.pinned (.plain (OpenSpec.ofChange fnSequencerErrorWrapsTheErrorItIsGivenSpec)) fnSequencerErrorWrapsTheErrorItIsGivenCard
/-- ITS FALSE NEIGHBOUR. Refute it at one input. -/
def FnSequencerErrorWrapsTheErrorItIsGivenToldWrongFalsely : Prop := Claim7.holds Tryf.pinned (.plain (OpenSpec.ofChange fnSequencerErrorWrapsTheErrorItIsGivenWrong)) fnSequencerErrorWrapsTheErrorItIsGivenCard
end Rows
end Go.Proofs.Qxb6613521aFmt
