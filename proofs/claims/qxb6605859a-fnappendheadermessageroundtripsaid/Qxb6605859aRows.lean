/-
  No cell of these rows narrows 'for every input' (looked for: loops, veiled, ifaces, maps, wideKeys, modest, calm, conditions, laid).
  DERIVED. THE GIVEN ROWS OF THIS SEAT. 4 by the template 'for every input the law returns true; each argument reads behind the call as it read before'; 0 by the template 'total and deterministic' (their statements: Qxb6605859aTotals.lean).
  GIVEN WITH THE SEED: the statements are not yours to turn. If you find one false, say at which input.
  Laid BY PROGRAM, IN A SANDBOX (cutbox-rows.mjs): the forced cells as the released guide's own fill.sh prints them over the translation d76560a6bae6c0dd… (all of the seat's roots in one cut). By AI agents, Wed Nov 11 2026. No macro, syntax, notation, axiom, sorry.
-/
import Derived.Test.Qxb6605859aChecked
import GoSem.Claim
import GoSem.ClaimJoined
import GoSem.ClaimMapViews
import Derived.JoinedTies
import Derived.KernelRfl
namespace Go.Proofs.Qxb6605859a
/- THE CELL 'sum', in the pinned program and in every row, IS THE sha256 OF THE DUMP (.gsa) THAT Qxb6605859aProg.lean LOADS. Nothing in Lean hashes anything: it is a label: what it is worth is what the hold of that sum in a sandbox is worth. -/
noncomputable def Try.pinned : Pinned := { name := "qxb6605859a", sum := "d76560a6bae6c0dd986a1a483139655dcd87af026d998d300909964120bcd6a1", checked := Try.checked }
namespace Rows
def none {H : Type} : Left H := { results := [], args := [] }

/-- 'zzlaws_root_b1.FnAppendHeaderExact': WHATEVER THE INPUT: true; the input reads as it did. -/
def fnAppendHeaderExactSpec : ChangeSpec := { name := "fnAppendHeaderExact", fn := fun _ => fun
  | [d1, d2, d3] => { results := [.lit (.bool true)], args := [d1, d2, d3] }
  | _ => none }
def fnAppendHeaderExactRow : OpenClaim := { program := "qxb6605859a", sum := "d76560a6bae6c0dd986a1a483139655dcd87af026d998d300909964120bcd6a1", func := "example.com/exauth/exauth/zzlaws_root_b1.FnAppendHeaderExact", spec := "fnAppendHeaderExact", apart := false }
def FnAppendHeaderExactSaid : Prop := fnAppendHeaderExactRow.holds Try.pinned (OpenSpec.ofChange fnAppendHeaderExactSpec)

/-- ITS FALSE NEIGHBOUR: 'it returns false'. Refute it at one input. -/
def fnAppendHeaderExactWrong : ChangeSpec := { name := "fnAppendHeaderExact", fn := fun _ => fun
  | [d1, d2, d3] => { results := [.lit (.bool false)], args := [d1, d2, d3] }
  | _ => none }
def FnAppendHeaderExactWrongFalsely : Prop := fnAppendHeaderExactRow.holds Try.pinned (OpenSpec.ofChange fnAppendHeaderExactWrong)

/-- 'zzlaws_root_b1.FnAppendHeaderMessageRoundTrip': WHATEVER THE INPUT: true; the input reads as it did. -/
def fnAppendHeaderMessageRoundTripSpec : ChangeSpec := { name := "fnAppendHeaderMessageRoundTrip", fn := fun _ => fun
  | [d1, d2, d3, d4] => { results := [.lit (.bool true)], args := [d1, d2, d3, d4] }
  | _ => none }
def fnAppendHeaderMessageRoundTripRow : OpenClaim := { program := "qxb6605859a", sum := "d76560a6bae6c0dd986a1a483139655dcd87af026d998d300909964120bcd6a1", func := "example.com/exauth/exauth/zzlaws_root_b1.FnAppendHeaderMessageRoundTrip", spec := "fnAppendHeaderMessageRoundTrip", apart := false }
def FnAppendHeaderMessageRoundTripSaid : Prop := fnAppendHeaderMessageRoundTripRow.holds Try.pinned (OpenSpec.ofChange fnAppendHeaderMessageRoundTripSpec)

/-- ITS FALSE NEIGHBOUR: 'it returns false'. Refute it at one input. -/
def fnAppendHeaderMessageRoundTripWrong : ChangeSpec := { name := "fnAppendHeaderMessageRoundTrip", fn := fun _ => fun
  | [d1, d2, d3, d4] => { results := [.lit (.bool false)], args := [d1, d2, d3, d4] }
  | _ => none }
def FnAppendHeaderMessageRoundTripWrongFalsely : Prop := fnAppendHeaderMessageRoundTripRow.holds Try.pinned (OpenSpec.ofChange fnAppendHeaderMessageRoundTripWrong)

/-- 'zzlaws_root_b1.FnParserBytesExact': WHATEVER THE INPUT: true; the input reads as it did. -/
def fnParserBytesExactSpec : ChangeSpec := { name := "fnParserBytesExact", fn := fun _ => fun
  | [d1, d2] => { results := [.lit (.bool true)], args := [d1, d2] }
  | _ => none }
def fnParserBytesExactRow : OpenClaim := { program := "qxb6605859a", sum := "d76560a6bae6c0dd986a1a483139655dcd87af026d998d300909964120bcd6a1", func := "example.com/exauth/exauth/zzlaws_root_b1.FnParserBytesExact", spec := "fnParserBytesExact", apart := false }
def FnParserBytesExactSaid : Prop := fnParserBytesExactRow.holds Try.pinned (OpenSpec.ofChange fnParserBytesExactSpec)

/-- ITS FALSE NEIGHBOUR: 'it returns false'. Refute it at one input. -/
def fnParserBytesExactWrong : ChangeSpec := { name := "fnParserBytesExact", fn := fun _ => fun
  | [d1, d2] => { results := [.lit (.bool false)], args := [d1, d2] }
  | _ => none }
def FnParserBytesExactWrongFalsely : Prop := fnParserBytesExactRow.holds Try.pinned (OpenSpec.ofChange fnParserBytesExactWrong)

/-- 'zzlaws_root_b1.FnParserBytesTwoReadsAsOne': WHATEVER THE INPUT: true; the input reads as it did. -/
def fnParserBytesTwoReadsAsOneSpec : ChangeSpec := { name := "fnParserBytesTwoReadsAsOne", fn := fun _ => fun
  | [d1, d2, d3] => { results := [.lit (.bool true)], args := [d1, d2, d3] }
  | _ => none }
def fnParserBytesTwoReadsAsOneRow : OpenClaim := { program := "qxb6605859a", sum := "d76560a6bae6c0dd986a1a483139655dcd87af026d998d300909964120bcd6a1", func := "example.com/exauth/exauth/zzlaws_root_b1.FnParserBytesTwoReadsAsOne", spec := "fnParserBytesTwoReadsAsOne", apart := false }
def FnParserBytesTwoReadsAsOneSaid : Prop := fnParserBytesTwoReadsAsOneRow.holds Try.pinned (OpenSpec.ofChange fnParserBytesTwoReadsAsOneSpec)

/-- ITS FALSE NEIGHBOUR: 'it returns false'. Refute it at one input. -/
def fnParserBytesTwoReadsAsOneWrong : ChangeSpec := { name := "fnParserBytesTwoReadsAsOne", fn := fun _ => fun
  | [d1, d2, d3] => { results := [.lit (.bool false)], args := [d1, d2, d3] }
  | _ => none }
def FnParserBytesTwoReadsAsOneWrongFalsely : Prop := fnParserBytesTwoReadsAsOneRow.holds Try.pinned (OpenSpec.ofChange fnParserBytesTwoReadsAsOneWrong)

end Rows
end Go.Proofs.Qxb6605859a
