/-
  No cell of these rows narrows 'for every input' (looked for: loops, veiled, ifaces, maps, wideKeys, modest, calm, conditions, laid).
  DERIVED. THE GIVEN ROWS OF THIS SEAT. 3 by the template 'for every input the law returns true; each argument reads behind the call as it read before'; 0 by the template 'total and deterministic' (their statements: Qxb6613513aFmtTotals.lean).
  GIVEN WITH THE SEED: the statements are not yours to turn. If you find one false, say at which input.
  Laid BY PROGRAM, IN A SANDBOX (cutbox-rows.mjs): the forced cells as the released guide's own fill.sh prints them over the translation 4cf859458bea9be7… (all of the seat's roots in one cut). By AI agents, Wed Nov 11 2026. No macro, syntax, notation, axiom, sorry.
-/
import Derived.Test.Qxb6613513aFmtChecked
import GoSem.Claim
import GoSem.ClaimJoined
import GoSem.ClaimMapViews
import Derived.JoinedTies
import Derived.KernelRfl
namespace Go.Proofs.Qxb6613513aFmt
/- THE CELL 'sum', in the pinned program and in every row, IS THE sha256 OF THE DUMP (.gsa) THAT Qxb6613513aFmtProg.lean LOADS. Nothing in Lean hashes anything: it is a label: what it is worth is what the hold of that sum in a sandbox is worth. -/
noncomputable def Tryf.pinned : Pinned := { name := "qxb6613513afmt", sum := "4cf859458bea9be70e74f9eeaa9516f759e91bd466b6f4ee30c8dd2d7b9fd624", checked := Tryf.checked }
namespace Rows
def none {H : Type} : Left H := { results := [], args := [] }

/-- 'zzlaws_root_b1.FnCheckKindKeysAcceptsExactlyFittingKeys': WHATEVER THE INPUT: true; the input reads as it did. -/
def fnCheckKindKeysAcceptsExactlyFittingKeysSpec : ChangeSpec := { name := "fnCheckKindKeysAcceptsExactlyFittingKeys", fn := fun _ => fun
  | [d1, d2, d3, d4, d5] => { results := [.lit (.bool true)], args := [d1, d2, d3, d4, d5] }
  | _ => none }
def fnCheckKindKeysAcceptsExactlyFittingKeysRow : OpenClaim := { program := "qxb6613513afmt", sum := "4cf859458bea9be70e74f9eeaa9516f759e91bd466b6f4ee30c8dd2d7b9fd624", func := "example.com/vestwright/vestwright/zzlaws_root_b1.FnCheckKindKeysAcceptsExactlyFittingKeys", spec := "fnCheckKindKeysAcceptsExactlyFittingKeys", stops := ["fmt.Sprintf, its operands' methods called", "fmt.errorf, its operands' methods called"], inPlace := ["fmt.errorf"], unfollowed := true, recurses := true, apart := false }
/-- NO THEOREM (fmt's text is open here; it may be false): for the released tool's asking of the row's closed facts alone. THE STATEMENT IS 'FnCheckKindKeysAcceptsExactlyFittingKeysToldSaid' (Qxb6613513aFmtCards.lean). -/
def FnCheckKindKeysAcceptsExactlyFittingKeysFormAsk : Prop := fnCheckKindKeysAcceptsExactlyFittingKeysRow.holds Tryf.pinned (OpenSpec.ofChange fnCheckKindKeysAcceptsExactlyFittingKeysSpec)

/-- ITS FALSE NEIGHBOUR: 'it returns false'. Refute it at one input. -/
def fnCheckKindKeysAcceptsExactlyFittingKeysWrong : ChangeSpec := { name := "fnCheckKindKeysAcceptsExactlyFittingKeys", fn := fun _ => fun
  | [d1, d2, d3, d4, d5] => { results := [.lit (.bool false)], args := [d1, d2, d3, d4, d5] }
  | _ => none }
def FnCheckKindKeysAcceptsExactlyFittingKeysWrongFormAsk : Prop := fnCheckKindKeysAcceptsExactlyFittingKeysRow.holds Tryf.pinned (OpenSpec.ofChange fnCheckKindKeysAcceptsExactlyFittingKeysWrong)

/-- 'zzlaws_root_b1.FnCheckKindKeysOneMoreSeenKey': WHATEVER THE INPUT: true; the input reads as it did. -/
def fnCheckKindKeysOneMoreSeenKeySpec : ChangeSpec := { name := "fnCheckKindKeysOneMoreSeenKey", fn := fun _ => fun
  | [d1, d2, d3, d4, d5, d6, d7] => { results := [.lit (.bool true)], args := [d1, d2, d3, d4, d5, d6, d7] }
  | _ => none }
def fnCheckKindKeysOneMoreSeenKeyRow : OpenClaim := { program := "qxb6613513afmt", sum := "4cf859458bea9be70e74f9eeaa9516f759e91bd466b6f4ee30c8dd2d7b9fd624", func := "example.com/vestwright/vestwright/zzlaws_root_b1.FnCheckKindKeysOneMoreSeenKey", spec := "fnCheckKindKeysOneMoreSeenKey", stops := ["fmt.Sprintf, its operands' methods called", "fmt.errorf, its operands' methods called"], inPlace := ["fmt.errorf"], unfollowed := true, recurses := true, apart := false }
/-- NO THEOREM (fmt's text is open here; it may be false): for the released tool's asking of the row's closed facts alone. THE STATEMENT IS 'FnCheckKindKeysOneMoreSeenKeyToldSaid' (Qxb6613513aFmtCards.lean). -/
def FnCheckKindKeysOneMoreSeenKeyFormAsk : Prop := fnCheckKindKeysOneMoreSeenKeyRow.holds Tryf.pinned (OpenSpec.ofChange fnCheckKindKeysOneMoreSeenKeySpec)

/-- ITS FALSE NEIGHBOUR: 'it returns false'. Refute it at one input. -/
def fnCheckKindKeysOneMoreSeenKeyWrong : ChangeSpec := { name := "fnCheckKindKeysOneMoreSeenKey", fn := fun _ => fun
  | [d1, d2, d3, d4, d5, d6, d7] => { results := [.lit (.bool false)], args := [d1, d2, d3, d4, d5, d6, d7] }
  | _ => none }
def FnCheckKindKeysOneMoreSeenKeyWrongFormAsk : Prop := fnCheckKindKeysOneMoreSeenKeyRow.holds Tryf.pinned (OpenSpec.ofChange fnCheckKindKeysOneMoreSeenKeyWrong)

/-- 'zzlaws_root_b1.FnPeerErrorTextsDifferExactlyWhenPeersShowDifferently': WHATEVER THE INPUT: true; the input reads as it did. -/
def fnPeerErrorTextsDifferExactlyWhenPeersShowDifferentlySpec : ChangeSpec := { name := "fnPeerErrorTextsDifferExactlyWhenPeersShowDifferently", fn := fun _ => fun
  | [d1, d2, d3] => { results := [.lit (.bool true)], args := [d1, d2, d3] }
  | _ => none }
def fnPeerErrorTextsDifferExactlyWhenPeersShowDifferentlyRow : OpenClaim := { program := "qxb6613513afmt", sum := "4cf859458bea9be70e74f9eeaa9516f759e91bd466b6f4ee30c8dd2d7b9fd624", func := "example.com/vestwright/vestwright/zzlaws_root_b1.FnPeerErrorTextsDifferExactlyWhenPeersShowDifferently", spec := "fnPeerErrorTextsDifferExactlyWhenPeersShowDifferently", stops := ["fmt.Sprintf, its operands' methods called", "fmt.errorf, its operands' methods called"], inPlace := ["fmt.Sprintf"], unfollowed := true, recurses := true, apart := false }
/-- NO THEOREM (fmt's text is open here; it may be false): for the released tool's asking of the row's closed facts alone. THE STATEMENT IS 'FnPeerErrorTextsDifferExactlyWhenPeersShowDifferentlyToldSaid' (Qxb6613513aFmtCards.lean). -/
def FnPeerErrorTextsDifferExactlyWhenPeersShowDifferentlyFormAsk : Prop := fnPeerErrorTextsDifferExactlyWhenPeersShowDifferentlyRow.holds Tryf.pinned (OpenSpec.ofChange fnPeerErrorTextsDifferExactlyWhenPeersShowDifferentlySpec)

/-- ITS FALSE NEIGHBOUR: 'it returns false'. Refute it at one input. -/
def fnPeerErrorTextsDifferExactlyWhenPeersShowDifferentlyWrong : ChangeSpec := { name := "fnPeerErrorTextsDifferExactlyWhenPeersShowDifferently", fn := fun _ => fun
  | [d1, d2, d3] => { results := [.lit (.bool false)], args := [d1, d2, d3] }
  | _ => none }
def FnPeerErrorTextsDifferExactlyWhenPeersShowDifferentlyWrongFormAsk : Prop := fnPeerErrorTextsDifferExactlyWhenPeersShowDifferentlyRow.holds Tryf.pinned (OpenSpec.ofChange fnPeerErrorTextsDifferExactlyWhenPeersShowDifferentlyWrong)

end Rows
end Go.Proofs.Qxb6613513aFmt
