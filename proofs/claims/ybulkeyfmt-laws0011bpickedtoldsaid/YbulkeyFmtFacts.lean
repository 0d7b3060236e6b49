/-
  CLOSED FACTS FOR THE WALK OVER fmt.errorf (the stopped front), turned from the guide's worked Check example to this program's numbers; and fmt.Errorf's contract at CheckName's format.
-/
import Derived.Test.YbulkeyFmtRows
import Derived.Stop.CallBack
import Derived.Stop.IfaceNil
import Derived.WalkKit
import Derived.WalkSpells
namespace Go.Proofs.YbulkeyFmt
open Go.RowKit Go.Extern.Stop Go.Stop Go.Extern

theorem call10 (args : Array Value) (w : World) : (callFunc 10 args).run Ybaf.prog w = ((FmtStop.errorf #[9, 29] #[23] args).run Ybaf.prog w).andThen fun v w' => .ok (.value v) w' :=
  run_callFunc_extern Ybaf.func10 (by kernel_rfl) (by kernel_rfl) (by kernel_rfl) (by kernel_rfl) args w
theorem guard0 (name : String) (w : World) : (FmtStop.guard name).run Ybaf.prog w = .ok () w := by kernel_rfl
theorem fmt0 : FmtStop.printed? ⟨#[112, 114, 111, 112, 101, 114, 116, 121, 32, 110, 97, 109, 101, 32, 37, 113, 32, 37, 115]⟩ 2 = some [(0, 113, false), (1, 115, false)] := by kernel_rfl
theorem fmt0r (w : World) : (FmtDoors.printed ⟨#[112, 114, 111, 112, 101, 114, 116, 121, 32, 110, 97, 109, 101, 32, 37, 113, 32, 37, 115]⟩ 2).run Ybaf.prog w = .ok [(0, 113, false), (1, 115, false)] w := by kernel_rfl
theorem fmt1 : FmtStop.printed? ⟨#[112, 114, 111, 112, 101, 114, 116, 121, 32, 110, 97, 109, 101, 32, 37, 113, 32, 37, 115]⟩ 0 = some [] := by kernel_rfl
theorem fmt1r (w : World) : (FmtDoors.printed ⟨#[112, 114, 111, 112, 101, 114, 116, 121, 32, 110, 97, 109, 101, 32, 37, 113, 32, 37, 115]⟩ 0).run Ybaf.prog w = .ok [] w := by kernel_rfl
def shape9 : List UInt8 := [12, 6, 0, 0, 0, 0, 0, 0, 0, 115, 116, 114, 105, 110, 103]
theorem op9_118 (name : String) (x : ByteArray) (w : World) : (FmtStop.operand name false 118 false (.iface 9 (.string x))).run Ybaf.prog w = .ok (shape9, FmtStop.pack x.data.toList) w := by kernel_rfl
theorem op9_113 (name : String) (x : ByteArray) (w : World) : (FmtStop.operand name false 113 false (.iface 9 (.string x))).run Ybaf.prog w = .ok (shape9, FmtStop.pack x.data.toList) w := by kernel_rfl
theorem op9_115 (name : String) (x : ByteArray) (w : World) : (FmtStop.operand name false 115 false (.iface 9 (.string x))).run Ybaf.prog w = .ok (shape9, FmtStop.pack x.data.toList) w := by kernel_rfl
theorem op9_118w (name : String) (x : ByteArray) (w : World) : (FmtStop.operand name true 118 false (.iface 9 (.string x))).run Ybaf.prog w = .ok (shape9, FmtStop.pack x.data.toList) w := by kernel_rfl
theorem op9_113w (name : String) (x : ByteArray) (w : World) : (FmtStop.operand name true 113 false (.iface 9 (.string x))).run Ybaf.prog w = .ok (shape9, FmtStop.pack x.data.toList) w := by kernel_rfl
theorem op9_115w (name : String) (x : ByteArray) (w : World) : (FmtStop.operand name true 115 false (.iface 9 (.string x))).run Ybaf.prog w = .ok (shape9, FmtStop.pack x.data.toList) w := by kernel_rfl
theorem strict9 (name : String) (x : ByteArray) (w : World) : (FmtStop.strict name (.iface 9 (.string x))).run Ybaf.prog w = .ok (shape9, FmtStop.pack x.data.toList) w := by kernel_rfl
theorem ptr31 (w : World) : (FmtStop.ptrTo "errors.errorString").run Ybaf.prog w = .ok 31 w := by kernel_rfl
theorem isError31 (w : World) : (FmtDoors.textMethod 31 "Error").run Ybaf.prog w = .ok true w := by kernel_rfl
theorem elem31 (w : World) : (elemOf 31).run Ybaf.prog w = .ok 33 w := by kernel_rfl

attribute [local go_sem] call10 guard0 fmt0 fmt0r fmt1 fmt1r op9_118 op9_113 op9_115 op9_118w op9_113w op9_115w strict9 ptr31 isError31 elem31

/-- fmt.Errorf at CheckName's format and two strings: a new error, whatever its text. -/
theorem errorf_name (F : Interp) (x y : ByteArray) (b : Nat) (w : World) (hF : F.answers w.tape) (hx : w.cell? ⟨b, 0, none⟩ = some (.iface 9 (.string x))) (hy : w.cell? ⟨b, 1, none⟩ = some (.iface 9 (.string y))) :
    Calls Ybaf.prog 9 #[.string ⟨#[112, 114, 111, 112, 101, 114, 116, 121, 32, 110, 97, 109, 101, 32, 37, 113, 32, 37, 115]⟩, .slice (some ⟨b, 0, none⟩) 2 2] w fun e w' => e = .returned (.iface 31 (.pointer (some ⟨w.heap.size, 0, none⟩))) ∧ Below w.heap.size w w' := by
  have hF' := answers_open hF
  go_enter Ybaf.func9, Ybaf.ntmps9
  go_wp2
  go_ret
  exact ⟨rfl, ((Below.refl _ _).alloc (Nat.le_refl _) _).drew⟩

end Go.Proofs.YbulkeyFmt
