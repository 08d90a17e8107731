/-
  DERIVED. GIVEN WITH THE SEED: THE CARDS: each row of Qxb6605859aFmtRows.lean that lists a variable, with what it lists TIED to the program's text (the seventh form; the later family's looks); each row that meets fmt, with fmt's text TOLD by the authors' own Lean function (tested against real Go, not proved from fmt's source: count such statements apart). THE CARD IS WHAT COUNTS. Prove the row's statement (the work); the ties are given (Qxb6605859aFmtTie.lean); close each card by the builder's one call (the guide's Derived/Test/ToyasCard.lean, 'card_holds'). Laid BY PROGRAM, IN A SANDBOX (cutbox-door.mjs). By AI agents, Wed Nov 11 2026. No macro, syntax, notation, axiom, sorry.
-/
import Derived.Test.Qxb6605859aFmtRows
import GoSem.ClaimSeven
namespace Go.Proofs.Qxb6605859aFmt
namespace Rows

/-- THE TOLD CARD OF 'zzlaws_root_b1.FnCheckExtensionsRefusesExactlyAtOrAboveLimit'. -/
def fnCheckExtensionsRefusesExactlyAtOrAboveLimitCard : Claim7 := { stood := { row := fnCheckExtensionsRefusesExactlyAtOrAboveLimitRow, standIns := [], harness := (true, "a0728c662d67fd83c584cf2b1adde685f1974d915009b463ccdd45ed936012a7"), looks := false }, told := true, goes := false }
def FnCheckExtensionsRefusesExactlyAtOrAboveLimitToldSaid : Prop := Claim7.holds Tryf.pinned (.plain (OpenSpec.ofChange fnCheckExtensionsRefusesExactlyAtOrAboveLimitSpec)) fnCheckExtensionsRefusesExactlyAtOrAboveLimitCard
/-- ITS FALSE NEIGHBOUR. Refute it at one input. -/
def FnCheckExtensionsRefusesExactlyAtOrAboveLimitToldWrongFalsely : Prop := Claim7.holds Tryf.pinned (.plain (OpenSpec.ofChange fnCheckExtensionsRefusesExactlyAtOrAboveLimitWrong)) fnCheckExtensionsRefusesExactlyAtOrAboveLimitCard

/-- THE TOLD CARD OF 'zzlaws_root_b1.FnCheckExtensionsAcceptsExactlyTheAllowList'. -/
def fnCheckExtensionsAcceptsExactlyTheAllowListCard : Claim7 := { stood := { row := fnCheckExtensionsAcceptsExactlyTheAllowListRow, standIns := [], harness := (true, "a0728c662d67fd83c584cf2b1adde685f1974d915009b463ccdd45ed936012a7"), looks := false }, told := true, goes := false }
def FnCheckExtensionsAcceptsExactlyTheAllowListToldSaid : Prop := Claim7.holds Tryf.pinned (.plain (OpenSpec.ofChange fnCheckExtensionsAcceptsExactlyTheAllowListSpec)) fnCheckExtensionsAcceptsExactlyTheAllowListCard
/-- ITS FALSE NEIGHBOUR. Refute it at one input. -/
def FnCheckExtensionsAcceptsExactlyTheAllowListToldWrongFalsely : Prop := Claim7.holds Tryf.pinned (.plain (OpenSpec.ofChange fnCheckExtensionsAcceptsExactlyTheAllowListWrong)) fnCheckExtensionsAcceptsExactlyTheAllowListCard
end Rows
end Go.Proofs.Qxb6605859aFmt
