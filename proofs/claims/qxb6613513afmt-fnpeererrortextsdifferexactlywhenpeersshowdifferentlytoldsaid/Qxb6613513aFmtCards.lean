/-
  DERIVED. GIVEN WITH THE SEED: THE CARDS: each row of Qxb6613513aFmtRows.lean that lists a variable, with what it lists TIED to the program's text (the seventh form; the later family's looks); each row that meets fmt, with fmt's text TOLD by the authors' own Lean function (tested against real Go, not proved from fmt's source: count such statements apart). THE CARD IS WHAT COUNTS. Prove the row's statement (the work); the ties are given (Qxb6613513aFmtTie.lean); close each card by the builder's one call (the guide's Derived/Test/ToyasCard.lean, 'card_holds'). Laid BY PROGRAM, IN A SANDBOX (cutbox-door.mjs). By AI agents, Wed Nov 11 2026. No macro, syntax, notation, axiom, sorry.
-/
import Derived.Test.Qxb6613513aFmtRows
import GoSem.ClaimSeven
namespace Go.Proofs.Qxb6613513aFmt
namespace Rows

/-- THE TOLD CARD OF 'zzlaws_root_b1.FnCheckKindKeysAcceptsExactlyFittingKeys'. -/
def fnCheckKindKeysAcceptsExactlyFittingKeysCard : Claim7 := { stood := { row := fnCheckKindKeysAcceptsExactlyFittingKeysRow, standIns := [], harness := (true, "3dfc5698200be05778189a9cda486181ecfcd487d53fc50531fc126ee886773e"), looks := false }, told := true, goes := false }
def FnCheckKindKeysAcceptsExactlyFittingKeysToldSaid : Prop := Claim7.holds Tryf.pinned (.plain (OpenSpec.ofChange fnCheckKindKeysAcceptsExactlyFittingKeysSpec)) fnCheckKindKeysAcceptsExactlyFittingKeysCard
/-- ITS FALSE NEIGHBOUR. Refute it at one input. -/
def FnCheckKindKeysAcceptsExactlyFittingKeysToldWrongFalsely : Prop := Claim7.holds Tryf.pinned (.plain (OpenSpec.ofChange fnCheckKindKeysAcceptsExactlyFittingKeysWrong)) fnCheckKindKeysAcceptsExactlyFittingKeysCard

/-- THE TOLD CARD OF 'zzlaws_root_b1.FnCheckKindKeysOneMoreSeenKey'. -/
def fnCheckKindKeysOneMoreSeenKeyCard : Claim7 := { stood := { row := fnCheckKindKeysOneMoreSeenKeyRow, standIns := [], harness := (true, "3dfc5698200be05778189a9cda486181ecfcd487d53fc50531fc126ee886773e"), looks := false }, told := true, goes := false }
def FnCheckKindKeysOneMoreSeenKeyToldSaid : Prop := Claim7.holds Tryf.pinned (.plain (OpenSpec.ofChange fnCheckKindKeysOneMoreSeenKeySpec)) fnCheckKindKeysOneMoreSeenKeyCard
/-- ITS FALSE NEIGHBOUR. Refute it at one input. -/
def FnCheckKindKeysOneMoreSeenKeyToldWrongFalsely : Prop := Claim7.holds Tryf.pinned (.plain (OpenSpec.ofChange fnCheckKindKeysOneMoreSeenKeyWrong)) fnCheckKindKeysOneMoreSeenKeyCard

/-- THE TOLD CARD OF 'zzlaws_root_b1.FnPeerErrorTextsDifferExactlyWhenPeersShowDifferently'. -/
def fnPeerErrorTextsDifferExactlyWhenPeersShowDifferentlyCard : Claim7 := { stood := { row := fnPeerErrorTextsDifferExactlyWhenPeersShowDifferentlyRow, standIns := [], harness := (true, "3dfc5698200be05778189a9cda486181ecfcd487d53fc50531fc126ee886773e"), looks := false }, told := true, goes := false }
def FnPeerErrorTextsDifferExactlyWhenPeersShowDifferentlyToldSaid : Prop := Claim7.holds Tryf.pinned (.plain (OpenSpec.ofChange fnPeerErrorTextsDifferExactlyWhenPeersShowDifferentlySpec)) fnPeerErrorTextsDifferExactlyWhenPeersShowDifferentlyCard
/-- ITS FALSE NEIGHBOUR. Refute it at one input. -/
def FnPeerErrorTextsDifferExactlyWhenPeersShowDifferentlyToldWrongFalsely : Prop := Claim7.holds Tryf.pinned (.plain (OpenSpec.ofChange fnPeerErrorTextsDifferExactlyWhenPeersShowDifferentlyWrong)) fnPeerErrorTextsDifferExactlyWhenPeersShowDifferentlyCard
end Rows
end Go.Proofs.Qxb6613513aFmt
