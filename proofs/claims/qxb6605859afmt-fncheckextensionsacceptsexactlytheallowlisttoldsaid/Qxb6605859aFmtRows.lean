/-
  No cell of these rows narrows 'for every input' (looked for: loops, veiled, ifaces, maps, wideKeys, modest, calm, conditions, laid).
  DERIVED. THE GIVEN ROWS OF THIS SEAT. 2 by the template 'for every input the law returns true; each argument reads behind the call as it read before'; 0 by the template 'total and deterministic' (their statements: Qxb6605859aFmtTotals.lean).
  GIVEN WITH THE SEED: the statements are not yours to turn. If you find one false, say at which input.
  Laid BY PROGRAM, IN A SANDBOX (cutbox-rows.mjs): the forced cells as the released guide's own fill.sh prints them over the translation 32faca45f5910ec9… (all of the seat's roots in one cut). By AI agents, Wed Nov 11 2026. No macro, syntax, notation, axiom, sorry.
-/
import Derived.Test.Qxb6605859aFmtChecked
import GoSem.Claim
import GoSem.ClaimJoined
import GoSem.ClaimMapViews
import Derived.JoinedTies
import Derived.KernelRfl
namespace Go.Proofs.Qxb6605859aFmt
/- THE CELL 'sum', in the pinned program and in every row, IS THE sha256 OF THE DUMP (.gsa) THAT Qxb6605859aFmtProg.lean LOADS. Nothing in Lean hashes anything: it is a label: what it is worth is what the hold of that sum in a sandbox is worth. -/
noncomputable def Tryf.pinned : Pinned := { name := "qxb6605859afmt", sum := "32faca45f5910ec9ba50c857179e8d77db3bd8f5e0ec607e2f8e907913098130", checked := Tryf.checked }
namespace Rows
def none {H : Type} : Left H := { results := [], args := [] }

/-- 'zzlaws_root_b1.FnCheckExtensionsRefusesExactlyAtOrAboveLimit': WHATEVER THE INPUT: true; the input reads as it did. -/
def fnCheckExtensionsRefusesExactlyAtOrAboveLimitSpec : ChangeSpec := { name := "fnCheckExtensionsRefusesExactlyAtOrAboveLimit", fn := fun _ => fun
  | [d1, d2, d3, d4, d5, d6, d7] => { results := [.lit (.bool true)], args := [d1, d2, d3, d4, d5, d6, d7] }
  | _ => none }
def fnCheckExtensionsRefusesExactlyAtOrAboveLimitRow : OpenClaim := { program := "qxb6605859afmt", sum := "32faca45f5910ec9ba50c857179e8d77db3bd8f5e0ec607e2f8e907913098130", func := "example.com/exauth/exauth/zzlaws_root_b1.FnCheckExtensionsRefusesExactlyAtOrAboveLimit", spec := "fnCheckExtensionsRefusesExactlyAtOrAboveLimit", stops := ["fmt.errorf"], inPlace := ["fmt.errorf"], unfollowed := true, recurses := true, apart := false }
/-- NO THEOREM (fmt's text is open here; it may be false): for the released tool's asking of the row's closed facts alone. THE STATEMENT IS 'FnCheckExtensionsRefusesExactlyAtOrAboveLimitToldSaid' (Qxb6605859aFmtCards.lean). -/
def FnCheckExtensionsRefusesExactlyAtOrAboveLimitFormAsk : Prop := fnCheckExtensionsRefusesExactlyAtOrAboveLimitRow.holds Tryf.pinned (OpenSpec.ofChange fnCheckExtensionsRefusesExactlyAtOrAboveLimitSpec)

/-- ITS FALSE NEIGHBOUR: 'it returns false'. Refute it at one input. -/
def fnCheckExtensionsRefusesExactlyAtOrAboveLimitWrong : ChangeSpec := { name := "fnCheckExtensionsRefusesExactlyAtOrAboveLimit", fn := fun _ => fun
  | [d1, d2, d3, d4, d5, d6, d7] => { results := [.lit (.bool false)], args := [d1, d2, d3, d4, d5, d6, d7] }
  | _ => none }
def FnCheckExtensionsRefusesExactlyAtOrAboveLimitWrongFormAsk : Prop := fnCheckExtensionsRefusesExactlyAtOrAboveLimitRow.holds Tryf.pinned (OpenSpec.ofChange fnCheckExtensionsRefusesExactlyAtOrAboveLimitWrong)

/-- 'zzlaws_root_b1.FnCheckExtensionsAcceptsExactlyTheAllowList': WHATEVER THE INPUT: true; the input reads as it did. -/
def fnCheckExtensionsAcceptsExactlyTheAllowListSpec : ChangeSpec := { name := "fnCheckExtensionsAcceptsExactlyTheAllowList", fn := fun _ => fun
  | [d1, d2, d3, d4, d5, d6, d7] => { results := [.lit (.bool true)], args := [d1, d2, d3, d4, d5, d6, d7] }
  | _ => none }
def fnCheckExtensionsAcceptsExactlyTheAllowListRow : OpenClaim := { program := "qxb6605859afmt", sum := "32faca45f5910ec9ba50c857179e8d77db3bd8f5e0ec607e2f8e907913098130", func := "example.com/exauth/exauth/zzlaws_root_b1.FnCheckExtensionsAcceptsExactlyTheAllowList", spec := "fnCheckExtensionsAcceptsExactlyTheAllowList", stops := ["fmt.errorf"], inPlace := ["fmt.errorf"], unfollowed := true, recurses := true, apart := false }
/-- NO THEOREM (fmt's text is open here; it may be false): for the released tool's asking of the row's closed facts alone. THE STATEMENT IS 'FnCheckExtensionsAcceptsExactlyTheAllowListToldSaid' (Qxb6605859aFmtCards.lean). -/
def FnCheckExtensionsAcceptsExactlyTheAllowListFormAsk : Prop := fnCheckExtensionsAcceptsExactlyTheAllowListRow.holds Tryf.pinned (OpenSpec.ofChange fnCheckExtensionsAcceptsExactlyTheAllowListSpec)

/-- ITS FALSE NEIGHBOUR: 'it returns false'. Refute it at one input. -/
def fnCheckExtensionsAcceptsExactlyTheAllowListWrong : ChangeSpec := { name := "fnCheckExtensionsAcceptsExactlyTheAllowList", fn := fun _ => fun
  | [d1, d2, d3, d4, d5, d6, d7] => { results := [.lit (.bool false)], args := [d1, d2, d3, d4, d5, d6, d7] }
  | _ => none }
def FnCheckExtensionsAcceptsExactlyTheAllowListWrongFormAsk : Prop := fnCheckExtensionsAcceptsExactlyTheAllowListRow.holds Tryf.pinned (OpenSpec.ofChange fnCheckExtensionsAcceptsExactlyTheAllowListWrong)

end Rows
end Go.Proofs.Qxb6605859aFmt
