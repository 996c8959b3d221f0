import Derived.Test.Qxb6615051aFmtCards
import Derived.Test.Qxb6615051aFmtShelf
import Derived.WalkKit
import Derived.ProofKit
import Derived.OpenShut
import Derived.ShutString
import Derived.Outline
import Derived.WalkSpells
import Derived.WalkSmall
import Derived.Stop.CallBack
import Derived.Stop.IfaceNil
namespace Go.Proofs.Qxb6615051aFmt.Tn
open Go.ChangeShapes Go.WideShapes Go.ChangeAt Go.RowKit
open Go.Extern.Stop Go.Stop Go.Extern

theorem hide {p : Prop} (h : p) : Hid p := h

theorem call49 (args : Array Value) (w : World) : (callFunc 49 args).run Tryf.prog w = ((FmtStop.errorf #[9, 79] #[28] args).run Tryf.prog w).andThen fun v w' => .ok (.value v) w' :=
  run_callFunc_extern Tryf.func49 (by kernel_rfl) (by kernel_rfl) (by kernel_rfl) (by kernel_rfl) args w
theorem guard (name : String) (w : World) : (FmtStop.guard name).run Tryf.prog w = .ok () w := by kernel_rfl
/-- "service provider code %q holds a character outside ASCII", one operand. -/
theorem fmt0 : FmtStop.printed? ⟨#[115, 101, 114, 118, 105, 99, 101, 32, 112, 114, 111, 118, 105, 100, 101, 114, 32, 99, 111, 100, 101, 32, 37, 113, 32, 104, 111, 108, 100, 115, 32, 97, 32, 99, 104, 97, 114, 97, 99, 116, 101, 114, 32, 111, 117, 116, 115, 105, 100, 101, 32, 65, 83, 67, 73, 73]⟩ 1 = some [(0, 113, false)] := by kernel_rfl
theorem fmt0r (w : World) : (FmtDoors.printed ⟨#[115, 101, 114, 118, 105, 99, 101, 32, 112, 114, 111, 118, 105, 100, 101, 114, 32, 99, 111, 100, 101, 32, 37, 113, 32, 104, 111, 108, 100, 115, 32, 97, 32, 99, 104, 97, 114, 97, 99, 116, 101, 114, 32, 111, 117, 116, 115, 105, 100, 101, 32, 65, 83, 67, 73, 73]⟩ 1).run Tryf.prog w = .ok [(0, 113, false)] w := by kernel_rfl
def shape9 : List UInt8 := [12, 6, 0, 0, 0, 0, 0, 0, 0, 115, 116, 114, 105, 110, 103]
theorem op9_113 (name : String) (x : ByteArray) (w : World) : (FmtStop.operand name false 113 false (.iface 9 (.string x))).run Tryf.prog w = .ok (shape9, FmtStop.pack x.data.toList) w := by kernel_rfl
theorem op9_113w (name : String) (x : ByteArray) (w : World) : (FmtStop.operand name true 113 false (.iface 9 (.string x))).run Tryf.prog w = .ok (shape9, FmtStop.pack x.data.toList) w := by kernel_rfl
theorem ptr76 (w : World) : (FmtStop.ptrTo "errors.errorString").run Tryf.prog w = .ok 76 w := by kernel_rfl
theorem elem76 (w : World) : (elemOf 76).run Tryf.prog w = .ok 78 w := by kernel_rfl
theorem isError76 (w : World) : (FmtDoors.textMethod 76 "Error").run Tryf.prog w = .ok true w := by kernel_rfl

attribute [local go_sem] call49 guard fmt0 fmt0r op9_113 op9_113w ptr76 elem76 isError76

/-- errors.New: a new block, an error that is not nil. -/
theorem errNew (s : ByteArray) (w : World) :
    Calls Tryf.prog 30 #[.string s] w fun e w' => e = .returned (.iface 76 (.pointer (some ⟨w.heap.size, 0, none⟩))) ∧ w' = w.alloc (.cells #[.string s] 78) := by
  go_enter Tryf.func30, Tryf.ntmps30
  go_wp2_with fail
  go_ret
  exact ⟨rfl, rfl⟩

theorem errf (F : Interp) (k : Nat) (s : ByteArray) (w : World) (hF : F.answers w.tape) (hc : w.cell? ⟨k, 0, none⟩ = some (.iface 9 (.string s))) :
    Calls Tryf.prog 31 #[.string ⟨#[115, 101, 114, 118, 105, 99, 101, 32, 112, 114, 111, 118, 105, 100, 101, 114, 32, 99, 111, 100, 101, 32, 37, 113, 32, 104, 111, 108, 100, 115, 32, 97, 32, 99, 104, 97, 114, 97, 99, 116, 101, 114, 32, 111, 117, 116, 115, 105, 100, 101, 32, 65, 83, 67, 73, 73]⟩, .slice (some ⟨k, 0, none⟩) 1 1] w fun e w' => e = .returned (.iface 76 (.pointer (some ⟨w.heap.size, 0, none⟩))) ∧ ∃ t, w' = (w.alloc (.cells #[.string t] 78)).drew := by
  have hF' := answers_open hF
  go_enter Tryf.func31, Tryf.ntmps31
  go_wp2_with fail
  go_ret
  exact ⟨rfl, _, rfl⟩
end Go.Proofs.Qxb6615051aFmt.Tn
