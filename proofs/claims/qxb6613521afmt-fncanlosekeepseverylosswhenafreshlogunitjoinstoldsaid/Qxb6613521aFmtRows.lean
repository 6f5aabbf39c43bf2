/-
  NARROWER THAN 'FOR EVERY INPUT', by the rows' own cells (each row's printed sentence says how): FnCanLoseKeepsEveryLossWhenAFreshLogUnitJoins: ifaces, laid.
  DERIVED. THE GIVEN ROWS OF THIS SEAT. 2 by the template 'for every input the law returns true; each argument reads behind the call as it read before'; 0 by the template 'total and deterministic' (their statements: Qxb6613521aFmtTotals.lean).
  GIVEN WITH THE SEED: the statements are not yours to turn. If you find one false, say at which input.
  Laid BY PROGRAM, IN A SANDBOX (cutbox-rows.mjs): the forced cells as the released guide's own fill.sh prints them over the translation 9442476c9b245ac5… (all of the seat's roots in one cut). By AI agents, Wed Nov 11 2026. No macro, syntax, notation, axiom, sorry.
-/
import Derived.Test.Qxb6613521aFmtChecked
import GoSem.Claim
import GoSem.ClaimJoined
import GoSem.ClaimMapViews
import Derived.JoinedTies
import Derived.KernelRfl
namespace Go.Proofs.Qxb6613521aFmt
/- THE CELL 'sum', in the pinned program and in every row, IS THE sha256 OF THE DUMP (.gsa) THAT Qxb6613521aFmtProg.lean LOADS. Nothing in Lean hashes anything: it is a label: what it is worth is what the hold of that sum in a sandbox is worth. -/
noncomputable def Tryf.pinned : Pinned := { name := "qxb6613521afmt", sum := "9442476c9b245ac590d32d7a1f8756ac658587fec170f541c2c9fa562839dcce", checked := Tryf.checked }
namespace Rows
def none {H : Type} : Left H := { results := [], args := [] }

/- WHAT THE LISTED PACKAGE-LEVEL VARIABLES READ AS WHEN THE CALL BEGINS. Each datum BY PROGRAM (the guide's laid-datum.mjs) off the statement by which the dump's own 'gosem.cut.vars' lays the variable. In a bare row this is a premise. The card (Qxb6613521aFmtCards.lean) ties it to the program's text. -/
def laid_example_com_skeinlog_skeinlog_internal_core_ErrLayout {H : Type} : DataW H := .iface "*errors.errorString" (.ptr (.agg [.lit (.string [105, 110, 118, 97, 108, 105, 100, 32, 108, 97, 121, 111, 117, 116])]))

/-- 'zzlaws_root_b1.FnCanLoseKeepsEveryLossWhenAFreshLogUnitJoins': WHATEVER THE INPUT: true; the input reads as it did. -/
def fnCanLoseKeepsEveryLossWhenAFreshLogUnitJoinsSpec : ChangeSpec := { name := "fnCanLoseKeepsEveryLossWhenAFreshLogUnitJoins", vars := ["example.com/skeinlog/skeinlog/internal/core.ErrLayout"], fn := fun _ => fun
  | [d1, d2, d3, d4, d5, d6, d7, d8, d9, g1] => { results := [.lit (.bool true)], args := [d1, d2, d3, d4, d5, d6, d7, d8, d9], vars := [g1] }
  | _ => none }
def fnCanLoseKeepsEveryLossWhenAFreshLogUnitJoinsRow : OpenClaim := { program := "qxb6613521afmt", sum := "9442476c9b245ac590d32d7a1f8756ac658587fec170f541c2c9fa562839dcce", func := "example.com/skeinlog/skeinlog/zzlaws_root_b1.FnCanLoseKeepsEveryLossWhenAFreshLogUnitJoins", spec := "fnCanLoseKeepsEveryLossWhenAFreshLogUnitJoins", stops := ["fmt.errorf"], inPlace := ["fmt.errorf"], unfollowed := true, recurses := true, named := ["example.com/skeinlog/skeinlog/internal/core.ErrLayout"], ifaces := true, apart := false, laid := [("example.com/skeinlog/skeinlog/internal/core.ErrLayout", laid_example_com_skeinlog_skeinlog_internal_core_ErrLayout)] }
/-- NO THEOREM (fmt's text is open here; it may be false): for the released tool's asking of the row's closed facts alone. THE STATEMENT IS 'FnCanLoseKeepsEveryLossWhenAFreshLogUnitJoinsToldSaid' (Qxb6613521aFmtCards.lean). -/
def FnCanLoseKeepsEveryLossWhenAFreshLogUnitJoinsFormAsk : Prop := fnCanLoseKeepsEveryLossWhenAFreshLogUnitJoinsRow.holds Tryf.pinned (OpenSpec.ofChange fnCanLoseKeepsEveryLossWhenAFreshLogUnitJoinsSpec)

/-- ITS FALSE NEIGHBOUR: 'it returns false'. Refute it at one input. -/
def fnCanLoseKeepsEveryLossWhenAFreshLogUnitJoinsWrong : ChangeSpec := { name := "fnCanLoseKeepsEveryLossWhenAFreshLogUnitJoins", vars := ["example.com/skeinlog/skeinlog/internal/core.ErrLayout"], fn := fun _ => fun
  | [d1, d2, d3, d4, d5, d6, d7, d8, d9, g1] => { results := [.lit (.bool false)], args := [d1, d2, d3, d4, d5, d6, d7, d8, d9], vars := [g1] }
  | _ => none }
def FnCanLoseKeepsEveryLossWhenAFreshLogUnitJoinsWrongFormAsk : Prop := fnCanLoseKeepsEveryLossWhenAFreshLogUnitJoinsRow.holds Tryf.pinned (OpenSpec.ofChange fnCanLoseKeepsEveryLossWhenAFreshLogUnitJoinsWrong)

/-- 'zzlaws_root_b1.FnSequencerErrorWrapsTheErrorItIsGiven': WHATEVER THE INPUT: true; the input reads as it did. -/
def fnSequencerErrorWrapsTheErrorItIsGivenSpec : ChangeSpec := { name := "fnSequencerErrorWrapsTheErrorItIsGiven", fn := fun _ => fun
  | [d] => { results := [.lit (.bool true)], args := [d] }
  | _ => none }
def fnSequencerErrorWrapsTheErrorItIsGivenRow : OpenClaim := { program := "qxb6613521afmt", sum := "9442476c9b245ac590d32d7a1f8756ac658587fec170f541c2c9fa562839dcce", func := "example.com/skeinlog/skeinlog/zzlaws_root_b1.FnSequencerErrorWrapsTheErrorItIsGiven", spec := "fnSequencerErrorWrapsTheErrorItIsGiven", stops := ["fmt.errorf"], inPlace := ["fmt.errorf"], unfollowed := true, recurses := true, apart := false }
/-- NO THEOREM (fmt's text is open here; it may be false): for the released tool's asking of the row's closed facts alone. THE STATEMENT IS 'FnSequencerErrorWrapsTheErrorItIsGivenToldSaid' (Qxb6613521aFmtCards.lean). -/
def FnSequencerErrorWrapsTheErrorItIsGivenFormAsk : Prop := fnSequencerErrorWrapsTheErrorItIsGivenRow.holds Tryf.pinned (OpenSpec.ofChange fnSequencerErrorWrapsTheErrorItIsGivenSpec)

/-- ITS FALSE NEIGHBOUR: 'it returns false'. Refute it at one input. -/
def fnSequencerErrorWrapsTheErrorItIsGivenWrong : ChangeSpec := { name := "fnSequencerErrorWrapsTheErrorItIsGiven", fn := fun _ => fun
  | [d] => { results := [.lit (.bool false)], args := [d] }
  | _ => none }
def FnSequencerErrorWrapsTheErrorItIsGivenWrongFormAsk : Prop := fnSequencerErrorWrapsTheErrorItIsGivenRow.holds Tryf.pinned (OpenSpec.ofChange fnSequencerErrorWrapsTheErrorItIsGivenWrong)

end Rows
end Go.Proofs.Qxb6613521aFmt
