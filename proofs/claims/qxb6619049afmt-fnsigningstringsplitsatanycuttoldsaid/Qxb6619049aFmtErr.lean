import Derived.Test.Qxb6619049aFmtRows
import Derived.WalkKit
import Derived.WalkSpells
import Derived.WalkLawsBesides
import Derived.Stop.CallBack
import Derived.Stop.IfaceNil
import GoSem.ClaimData
/-! fmt.Errorf (12), the one format of the road. What fmt writes stays unread: the law looks at nil or not nil alone. -/
namespace Go.Proofs.Qxb6619049aFmt
open Go.RowKit Go.Extern.Stop Go.Stop Go.Extern
set_option linter.unusedVariables false
set_option linter.unusedSimpArgs false

theorem Tryf.call14 (args : Array Value) (w : World) : (callFunc 14 args).run Tryf.prog w = ((FmtStop.errorf #[9, 39] #[27] args).run Tryf.prog w).andThen fun v w' => .ok (.value v) w' :=
  run_callFunc_extern Tryf.func14 (by kernel_rfl) (by kernel_rfl) (by kernel_rfl) (by kernel_rfl) args w
theorem Tryf.guardF (name : String) (w : World) : (FmtStop.guard name).run Tryf.prog w = .ok () w := by kernel_rfl

def fmtText : ByteArray := ⟨#[116, 104, 101, 32, 115, 105, 103, 110, 101, 100, 32, 104, 101, 97, 100, 101, 114, 32, 37, 115, 32, 104, 97, 115, 32, 110, 111, 32, 111, 110, 101, 32, 118, 97, 108, 117, 101, 32, 105, 110, 32, 116, 104, 101, 32, 114, 101, 113, 117, 101, 115, 116]⟩
theorem Tryf.fmt1r (w : World) : (FmtDoors.printed ⟨#[116, 104, 101, 32, 115, 105, 103, 110, 101, 100, 32, 104, 101, 97, 100, 101, 114, 32, 37, 115, 32, 104, 97, 115, 32, 110, 111, 32, 111, 110, 101, 32, 118, 97, 108, 117, 101, 32, 105, 110, 32, 116, 104, 101, 32, 114, 101, 113, 117, 101, 115, 116]⟩ 1).run Tryf.prog w = .ok [(0, 115, false)] w := by kernel_rfl
theorem Tryf.fmt1 : FmtStop.printed? ⟨#[116, 104, 101, 32, 115, 105, 103, 110, 101, 100, 32, 104, 101, 97, 100, 101, 114, 32, 37, 115, 32, 104, 97, 115, 32, 110, 111, 32, 111, 110, 101, 32, 118, 97, 108, 117, 101, 32, 105, 110, 32, 116, 104, 101, 32, 114, 101, 113, 117, 101, 115, 116]⟩ 1 = some [(0, 115, false)] := by kernel_rfl
def Tryf.shape9 : List UInt8 := [12, 6, 0, 0, 0, 0, 0, 0, 0, 115, 116, 114, 105, 110, 103]
theorem Tryf.op9_115 (name : String) (x : ByteArray) (w : World) : (FmtStop.operand name false 115 false (.iface 9 (.string x))).run Tryf.prog w = .ok (Tryf.shape9, FmtStop.pack x.data.toList) w := by kernel_rfl
theorem Tryf.op9_115w (name : String) (x : ByteArray) (w : World) : (FmtStop.operand name true 115 false (.iface 9 (.string x))).run Tryf.prog w = .ok (Tryf.shape9, FmtStop.pack x.data.toList) w := by kernel_rfl
theorem Tryf.ptr50 (w : World) : (FmtStop.ptrTo "errors.errorString").run Tryf.prog w = .ok 50 w := by kernel_rfl
theorem Tryf.elem50 (w : World) : (elemOf 50).run Tryf.prog w = .ok 52 w := by kernel_rfl

/-- How Errorf ends: an error of errors.New's make in new memory. -/
def ErrPost (w : World) (e : Ending) (w' : World) : Prop :=
  ∃ s : ByteArray, e = .returned (.iface 50 (.pointer (some ⟨w.heap.size, 0, none⟩))) ∧ w' = (w.alloc (.cells #[.string s] 52)).drew

set_option maxHeartbeats 400000 in
theorem errorf_any (F : Interp) (nm : ByteArray) (blk : Nat) (w : World) (hF : F.answers w.tape) (hc0 : w.cell? ⟨blk, 0, none⟩ = some (.iface 9 (.string nm))) :
    Calls Tryf.prog 12 #[.string ⟨#[116, 104, 101, 32, 115, 105, 103, 110, 101, 100, 32, 104, 101, 97, 100, 101, 114, 32, 37, 115, 32, 104, 97, 115, 32, 110, 111, 32, 111, 110, 101, 32, 118, 97, 108, 117, 101, 32, 105, 110, 32, 116, 104, 101, 32, 114, 101, 113, 117, 101, 115, 116]⟩, .slice (some ⟨blk, 0, none⟩) 1 1] w (ErrPost w) := by
  have hF' := answers_open hF
  have k1 := Tryf.call14
  have k2 := Tryf.guardF
  have k3 := Tryf.fmt1r
  have k4 := Tryf.fmt1
  have k5 := Tryf.op9_115
  have k6 := Tryf.op9_115w
  have k7 := Tryf.ptr50
  have k8 := Tryf.elem50
  go_enter Tryf.func12, Tryf.ntmps12
  go_wp2
  go_ret
  exact ⟨_, rfl, rfl⟩

end Go.Proofs.Qxb6619049aFmt
