/-
  No cell of these rows narrows 'for every input' (looked for: loops, veiled, ifaces, maps, wideKeys, modest, calm, conditions, laid).
  DERIVED. THE GIVEN ROWS OF THIS SEAT. 2 by the template 'for every input the law returns true; each argument reads behind the call as it read before'; 0 by the template 'total and deterministic' (their statements: Qxb6609020aFmtTotals.lean).
  GIVEN WITH THE SEED: the statements are not yours to turn. If you find one false, say at which input.
  Laid BY PROGRAM, IN A SANDBOX (cutbox-rows.mjs): the forced cells as the released guide's own fill.sh prints them over the translation 6531bafbf3e292d1… (all of the seat's roots in one cut). By AI agents, Wed Nov 11 2026. No macro, syntax, notation, axiom, sorry.
-/
import Derived.Test.Qxb6609020aFmtChecked
import GoSem.Claim
import GoSem.ClaimJoined
import GoSem.ClaimMapViews
import Derived.JoinedTies
import Derived.KernelRfl
namespace Go.Proofs.Qxb6609020aFmt
/- THE CELL 'sum', in the pinned program and in every row, IS THE sha256 OF THE DUMP (.gsa) THAT Qxb6609020aFmtProg.lean LOADS. Nothing in Lean hashes anything: it is a label: what it is worth is what the hold of that sum in a sandbox is worth. -/
noncomputable def Tryf.pinned : Pinned := { name := "qxb6609020afmt", sum := "6531bafbf3e292d10d9185720340f3e7481a48068fdb6ec603ed04a38712eda1", checked := Tryf.checked }
namespace Rows
def none {H : Type} : Left H := { results := [], args := [] }

/-- 'zzlaws_pkg_layout_b1.FnDealWholeAnswer': WHATEVER THE INPUT: true; the input reads as it did. -/
def fnDealWholeAnswerSpec : ChangeSpec := { name := "fnDealWholeAnswer", fn := fun _ => fun
  | [d] => { results := [.lit (.bool true)], args := [d] }
  | _ => none }
def fnDealWholeAnswerRow : OpenClaim := { program := "qxb6609020afmt", sum := "6531bafbf3e292d10d9185720340f3e7481a48068fdb6ec603ed04a38712eda1", func := "example.com/rafu/rafu/zzlaws_pkg_layout_b1.FnDealWholeAnswer", spec := "fnDealWholeAnswer", stops := ["fmt.errorf, its operands' methods called", "fmt.Sprintf"], inPlace := ["fmt.errorf"], unfollowed := true, recurses := true, apart := false }
/-- NO THEOREM (fmt's text is open here; it may be false): for the released tool's asking of the row's closed facts alone. THE STATEMENT IS 'FnDealWholeAnswerToldSaid' (Qxb6609020aFmtCards.lean). -/
def FnDealWholeAnswerFormAsk : Prop := fnDealWholeAnswerRow.holds Tryf.pinned (OpenSpec.ofChange fnDealWholeAnswerSpec)

/-- ITS FALSE NEIGHBOUR: 'it returns false'. Refute it at one input. -/
def fnDealWholeAnswerWrong : ChangeSpec := { name := "fnDealWholeAnswer", fn := fun _ => fun
  | [d] => { results := [.lit (.bool false)], args := [d] }
  | _ => none }
def FnDealWholeAnswerWrongFormAsk : Prop := fnDealWholeAnswerRow.holds Tryf.pinned (OpenSpec.ofChange fnDealWholeAnswerWrong)

/-- 'zzlaws_pkg_layout_b1.FnDealBalancedShares': WHATEVER THE INPUT: true; the input reads as it did. -/
def fnDealBalancedSharesSpec : ChangeSpec := { name := "fnDealBalancedShares", fn := fun _ => fun
  | [d] => { results := [.lit (.bool true)], args := [d] }
  | _ => none }
def fnDealBalancedSharesRow : OpenClaim := { program := "qxb6609020afmt", sum := "6531bafbf3e292d10d9185720340f3e7481a48068fdb6ec603ed04a38712eda1", func := "example.com/rafu/rafu/zzlaws_pkg_layout_b1.FnDealBalancedShares", spec := "fnDealBalancedShares", stops := ["fmt.errorf, its operands' methods called", "fmt.Sprintf"], inPlace := ["fmt.errorf"], unfollowed := true, recurses := true, apart := false }
/-- NO THEOREM (fmt's text is open here; it may be false): for the released tool's asking of the row's closed facts alone. THE STATEMENT IS 'FnDealBalancedSharesToldSaid' (Qxb6609020aFmtCards.lean). -/
def FnDealBalancedSharesFormAsk : Prop := fnDealBalancedSharesRow.holds Tryf.pinned (OpenSpec.ofChange fnDealBalancedSharesSpec)

/-- ITS FALSE NEIGHBOUR: 'it returns false'. Refute it at one input. -/
def fnDealBalancedSharesWrong : ChangeSpec := { name := "fnDealBalancedShares", fn := fun _ => fun
  | [d] => { results := [.lit (.bool false)], args := [d] }
  | _ => none }
def FnDealBalancedSharesWrongFormAsk : Prop := fnDealBalancedSharesRow.holds Tryf.pinned (OpenSpec.ofChange fnDealBalancedSharesWrong)

end Rows
end Go.Proofs.Qxb6609020aFmt
