/-
  No cell of these rows narrows 'for every input' (looked for: loops, veiled, ifaces, maps, wideKeys, modest, calm, conditions, laid).
  DERIVED. THE GIVEN ROWS OF THIS SEAT. 3 by the template 'for every input the law returns true; each argument reads behind the call as it read before'; 0 by the template 'total and deterministic' (their statements: Qxb6605700aTotals.lean).
  GIVEN WITH THE SEED: the statements are not yours to turn. If you find one false, say at which input.
  Laid BY PROGRAM, IN A SANDBOX (cutbox-rows.mjs): the forced cells as the released guide's own fill.sh prints them over the translation 14af21271be31581… (all of the seat's roots in one cut). By AI agents, Wed Nov 11 2026. No macro, syntax, notation, axiom, sorry.
-/
import Derived.Test.Qxb6605700aChecked
import GoSem.Claim
import GoSem.ClaimJoined
import GoSem.ClaimMapViews
import Derived.JoinedTies
import Derived.KernelRfl
namespace Go.Proofs.Qxb6605700a
/- THE CELL 'sum', in the pinned program and in every row, IS THE sha256 OF THE DUMP (.gsa) THAT Qxb6605700aProg.lean LOADS. Nothing in Lean hashes anything: it is a label: what it is worth is what the hold of that sum in a sandbox is worth. -/
noncomputable def Try.pinned : Pinned := { name := "qxb6605700a", sum := "14af21271be315815bb1b373d673c005854a863b5b51b3ab360d875fcd2a7b21", checked := Try.checked }
namespace Rows
def none {H : Type} : Left H := { results := [], args := [] }

/-- 'zzlaws_internal_graph_b1.FnByPathIsByteOrder': WHATEVER THE INPUT: true; the input reads as it did. -/
def fnByPathIsByteOrderSpec : ChangeSpec := { name := "fnByPathIsByteOrder", fn := fun _ => fun
  | [d1, d2] => { results := [.lit (.bool true)], args := [d1, d2] }
  | _ => none }
def fnByPathIsByteOrderRow : OpenClaim := { program := "qxb6605700a", sum := "14af21271be315815bb1b373d673c005854a863b5b51b3ab360d875fcd2a7b21", func := "example.com/buildscribe/buildscribe/zzlaws_internal_graph_b1.FnByPathIsByteOrder", spec := "fnByPathIsByteOrder", inPlace := ["internal/bytealg.abigen_runtime_cmpstring"], apart := false }
def FnByPathIsByteOrderSaid : Prop := fnByPathIsByteOrderRow.holds Try.pinned (OpenSpec.ofChange fnByPathIsByteOrderSpec)

/-- ITS FALSE NEIGHBOUR: 'it returns false'. Refute it at one input. -/
def fnByPathIsByteOrderWrong : ChangeSpec := { name := "fnByPathIsByteOrder", fn := fun _ => fun
  | [d1, d2] => { results := [.lit (.bool false)], args := [d1, d2] }
  | _ => none }
def FnByPathIsByteOrderWrongFalsely : Prop := fnByPathIsByteOrderRow.holds Try.pinned (OpenSpec.ofChange fnByPathIsByteOrderWrong)

/-- 'zzlaws_internal_graph_b1.FnToolPackagesAreToolOwnersInRecordOrder': WHATEVER THE INPUT: true; the input reads as it did. -/
def fnToolPackagesAreToolOwnersInRecordOrderSpec : ChangeSpec := { name := "fnToolPackagesAreToolOwnersInRecordOrder", fn := fun _ => fun
  | [d1, d2, d3] => { results := [.lit (.bool true)], args := [d1, d2, d3] }
  | _ => none }
def fnToolPackagesAreToolOwnersInRecordOrderRow : OpenClaim := { program := "qxb6605700a", sum := "14af21271be315815bb1b373d673c005854a863b5b51b3ab360d875fcd2a7b21", func := "example.com/buildscribe/buildscribe/zzlaws_internal_graph_b1.FnToolPackagesAreToolOwnersInRecordOrder", spec := "fnToolPackagesAreToolOwnersInRecordOrder", inPlace := ["internal/bytealg.abigen_runtime_cmpstring"], unfollowed := true, recurses := true, apart := false }
def FnToolPackagesAreToolOwnersInRecordOrderSaid : Prop := fnToolPackagesAreToolOwnersInRecordOrderRow.holds Try.pinned (OpenSpec.ofChange fnToolPackagesAreToolOwnersInRecordOrderSpec)

/-- ITS FALSE NEIGHBOUR: 'it returns false'. Refute it at one input. -/
def fnToolPackagesAreToolOwnersInRecordOrderWrong : ChangeSpec := { name := "fnToolPackagesAreToolOwnersInRecordOrder", fn := fun _ => fun
  | [d1, d2, d3] => { results := [.lit (.bool false)], args := [d1, d2, d3] }
  | _ => none }
def FnToolPackagesAreToolOwnersInRecordOrderWrongFalsely : Prop := fnToolPackagesAreToolOwnersInRecordOrderRow.holds Try.pinned (OpenSpec.ofChange fnToolPackagesAreToolOwnersInRecordOrderWrong)

/-- 'zzlaws_internal_graph_b1.FnToolPackagesIgnoreHowToolsAreSpread': WHATEVER THE INPUT: true; the input reads as it did. -/
def fnToolPackagesIgnoreHowToolsAreSpreadSpec : ChangeSpec := { name := "fnToolPackagesIgnoreHowToolsAreSpread", fn := fun _ => fun
  | [d1, d2, d3] => { results := [.lit (.bool true)], args := [d1, d2, d3] }
  | _ => none }
def fnToolPackagesIgnoreHowToolsAreSpreadRow : OpenClaim := { program := "qxb6605700a", sum := "14af21271be315815bb1b373d673c005854a863b5b51b3ab360d875fcd2a7b21", func := "example.com/buildscribe/buildscribe/zzlaws_internal_graph_b1.FnToolPackagesIgnoreHowToolsAreSpread", spec := "fnToolPackagesIgnoreHowToolsAreSpread", inPlace := ["internal/bytealg.abigen_runtime_cmpstring"], unfollowed := true, recurses := true, apart := false }
def FnToolPackagesIgnoreHowToolsAreSpreadSaid : Prop := fnToolPackagesIgnoreHowToolsAreSpreadRow.holds Try.pinned (OpenSpec.ofChange fnToolPackagesIgnoreHowToolsAreSpreadSpec)

/-- ITS FALSE NEIGHBOUR: 'it returns false'. Refute it at one input. -/
def fnToolPackagesIgnoreHowToolsAreSpreadWrong : ChangeSpec := { name := "fnToolPackagesIgnoreHowToolsAreSpread", fn := fun _ => fun
  | [d1, d2, d3] => { results := [.lit (.bool false)], args := [d1, d2, d3] }
  | _ => none }
def FnToolPackagesIgnoreHowToolsAreSpreadWrongFalsely : Prop := fnToolPackagesIgnoreHowToolsAreSpreadRow.holds Try.pinned (OpenSpec.ofChange fnToolPackagesIgnoreHowToolsAreSpreadWrong)

end Rows
end Go.Proofs.Qxb6605700a
