import Derived.Test.Qxb6605859aFmtRows
import Derived.Stop.CallBack
import Derived.Stop.IfaceNil
import GoSem.ClaimData
import Derived.WalkKit
import Derived.WalkSpells
import Derived.WalkLawsBesides
import Derived.BigQuiet
import Derived.Below
namespace Go.Proofs.Qxb6605859aFmt
open Go.RowKit Go.Extern.Stop Go.Stop Go.Extern
set_option linter.unusedVariables false

theorem Tryf.call19 (args : Array Value) (w : World) : (callFunc 19 args).run Tryf.prog w = ((FmtStop.errorf #[9, 49] #[35] args).run Tryf.prog w).andThen fun v w' => .ok (.value v) w' :=
  run_callFunc_extern Tryf.func19 (by kernel_rfl) (by kernel_rfl) (by kernel_rfl) (by kernel_rfl) args w
theorem Tryf.guard (name : String) (w : World) : (FmtStop.guard name).run Tryf.prog w = .ok () w := by kernel_rfl
theorem Tryf.fmt0 : FmtStop.printed? ⟨#[101, 120, 97, 117, 116, 104, 58, 32, 99, 101, 114, 116, 105, 102, 105, 99, 97, 116, 101, 32, 101, 110, 116, 114, 121, 32, 37, 100, 32, 99, 97, 114, 114, 105, 101, 115, 32, 97, 110, 32, 101, 120, 116, 101, 110, 115, 105, 111, 110, 32, 111, 102, 32, 116, 121, 112, 101, 32, 48, 120, 37, 48, 52, 120, 44, 32, 37, 115]⟩ 3 = some [(0, 100, false), (1, 120, false), (2, 115, false)] := by kernel_rfl
theorem Tryf.fmt0r (w : World) : (FmtDoors.printed ⟨#[101, 120, 97, 117, 116, 104, 58, 32, 99, 101, 114, 116, 105, 102, 105, 99, 97, 116, 101, 32, 101, 110, 116, 114, 121, 32, 37, 100, 32, 99, 97, 114, 114, 105, 101, 115, 32, 97, 110, 32, 101, 120, 116, 101, 110, 115, 105, 111, 110, 32, 111, 102, 32, 116, 121, 112, 101, 32, 48, 120, 37, 48, 52, 120, 44, 32, 37, 115]⟩ 3).run Tryf.prog w = .ok [(0, 100, false), (1, 120, false), (2, 115, false)] w := by kernel_rfl
def Tryf.shape3 : List UInt8 := [5, 3, 0, 0, 0, 0, 0, 0, 0, 105, 110, 116]
theorem Tryf.op3_100w (name : String) (x : Int) (w : World) : (FmtStop.operand name true 100 false (.iface 3 (.int .i64 x))).run Tryf.prog w = .ok (Tryf.shape3, Go.Extern.Stop.digits 8 (x % 2 ^ 64).toNat) w := by kernel_rfl
def Tryf.shape9 : List UInt8 := [12, 6, 0, 0, 0, 0, 0, 0, 0, 115, 116, 114, 105, 110, 103]
theorem Tryf.op9_115w (name : String) (x : ByteArray) (w : World) : (FmtStop.operand name true 115 false (.iface 9 (.string x))).run Tryf.prog w = .ok (Tryf.shape9, FmtStop.pack x.data.toList) w := by kernel_rfl
def Tryf.shape24 : List UInt8 := [7, 6, 0, 0, 0, 0, 0, 0, 0, 117, 105, 110, 116, 49, 54]
theorem Tryf.op24_120w (name : String) (x : Int) (w : World) : (FmtStop.operand name true 120 false (.iface 24 (.int .u16 x))).run Tryf.prog w = .ok (Tryf.shape24, Go.Extern.Stop.digits 8 (x % 2 ^ 64).toNat) w := by kernel_rfl
theorem Tryf.ptr52 (w : World) : (FmtStop.ptrTo "errors.errorString").run Tryf.prog w = .ok 52 w := by kernel_rfl
theorem Tryf.elem52 (w : World) : (elemOf 52).run Tryf.prog w = .ok 54 w := by kernel_rfl

/-- fmt.Errorf at this program's one format, whatever text fmt gives: an error that is not nil; nothing old has turned. -/
theorem errorf_any (F : Interp) (n t : Int) (r : ByteArray) (blk : Nat) (w : World) (hF : F.answers w.tape)
    (hc0 : w.cell? ⟨blk, 0, none⟩ = some (.iface 3 (.int .i64 n))) (hc1 : w.cell? ⟨blk, 1, none⟩ = some (.iface 24 (.int .u16 t))) (hc2 : w.cell? ⟨blk, 2, none⟩ = some (.iface 9 (.string r))) :
    Calls Tryf.prog 18 #[.string ⟨#[101, 120, 97, 117, 116, 104, 58, 32, 99, 101, 114, 116, 105, 102, 105, 99, 97, 116, 101, 32, 101, 110, 116, 114, 121, 32, 37, 100, 32, 99, 97, 114, 114, 105, 101, 115, 32, 97, 110, 32, 101, 120, 116, 101, 110, 115, 105, 111, 110, 32, 111, 102, 32, 116, 121, 112, 101, 32, 48, 120, 37, 48, 52, 120, 44, 32, 37, 115]⟩, .slice (some ⟨blk, 0, none⟩) 3 3] w fun e w' =>
      (∃ a, e = .returned (.iface 52 (.pointer (some a)))) ∧ Below w.heap.size w w' := by
  unfold Interp.answers at hF
  have f1 := Tryf.call19
  have f2 := Tryf.guard
  have f3 := Tryf.fmt0
  have f4 := Tryf.fmt0r
  have f5 := Tryf.op3_100w
  have f6 := Tryf.op24_120w
  have f7 := Tryf.op9_115w
  have f8 := Tryf.ptr52
  have f9 := Tryf.elem52
  go_enter Tryf.func18, Tryf.ntmps18
  go_wp2
  go_ret
  exact ⟨⟨_, rfl⟩, ((Below.refl _ w).alloc (Nat.le_refl _) _).drew⟩

end Go.Proofs.Qxb6605859aFmt
