import Derived.Test.Qxb6001696aFmtRows
import Derived.WalkKit
import Derived.WalkSpells
import Derived.Stop.CallBack
import Derived.Stop.IfaceNil
import Derived.Stop.FmtTextLaws
import GoSem.ClaimData
namespace Go.Proofs.Qxb6001696aFmt
open Go.RowKit Go.Extern.Stop Go.Stop Go.Extern

theorem Tryf.call18 (args : Array Value) (w : World) : (callFunc 18 args).run Tryf.prog w = ((FmtStop.errorf #[9, 44] #[32] args).run Tryf.prog w).andThen fun v w' => .ok (.value v) w' :=
  run_callFunc_extern Tryf.func18 (by kernel_rfl) (by kernel_rfl) (by kernel_rfl) (by kernel_rfl) args w

theorem Tryf.guard (name : String) (w : World) : (FmtStop.guard name).run Tryf.prog w = .ok () w := by kernel_rfl

theorem Tryf.fmt0 : FmtStop.printed? ⟨#[34, 99, 111, 109, 112, 108, 101, 120, 105, 116, 121, 34, 32, 109, 117, 115, 116, 32, 98, 101, 32, 102, 114, 111, 109, 32, 49, 32, 116, 111, 32, 37, 100, 44, 32, 110, 111, 116, 32, 37, 100]⟩ 2 = some [(0, 100, false), (1, 100, false)] := by kernel_rfl
theorem Tryf.fmt0r (w : World) : (FmtDoors.printed ⟨#[34, 99, 111, 109, 112, 108, 101, 120, 105, 116, 121, 34, 32, 109, 117, 115, 116, 32, 98, 101, 32, 102, 114, 111, 109, 32, 49, 32, 116, 111, 32, 37, 100, 44, 32, 110, 111, 116, 32, 37, 100]⟩ 2).run Tryf.prog w = .ok [(0, 100, false), (1, 100, false)] w := by kernel_rfl

def Tryf.shape3 : List UInt8 := [5, 3, 0, 0, 0, 0, 0, 0, 0, 105, 110, 116]
theorem Tryf.op3_100w (name : String) (x : Int) (w : World) : (FmtStop.operand name true 100 false (.iface 3 (.int .i64 x))).run Tryf.prog w = .ok (Tryf.shape3, Go.Extern.Stop.digits 8 (x % 2 ^ 64).toNat) w := by kernel_rfl
theorem Tryf.op3_100 (name : String) (x : Int) (w : World) : (FmtStop.operand name false 100 false (.iface 3 (.int .i64 x))).run Tryf.prog w = .ok (Tryf.shape3, Go.Extern.Stop.digits 8 (x % 2 ^ 64).toNat) w := by kernel_rfl
theorem Tryf.strict3 (name : String) (x : Int) (w : World) : (FmtStop.strict name (.iface 3 (.int .i64 x))).run Tryf.prog w = .ok (Tryf.shape3, Go.Extern.Stop.digits 8 (x % 2 ^ 64).toNat) w := by kernel_rfl

theorem Tryf.ptr47 (w : World) : (FmtStop.ptrTo "errors.errorString").run Tryf.prog w = .ok 47 w := by kernel_rfl
theorem Tryf.elem47 (w : World) : (elemOf 47).run Tryf.prog w = .ok 49 w := by kernel_rfl
theorem Tryf.isError47' (w : World) : (FmtDoors.textMethod 47 "Error").run Tryf.prog w = .ok true w := by kernel_rfl

attribute [local go_sem] Tryf.call18 Tryf.guard Tryf.fmt0 Tryf.fmt0r Tryf.op3_100w Tryf.op3_100 Tryf.strict3 Tryf.ptr47 Tryf.elem47 Tryf.isError47'

set_option maxHeartbeats 400000 in
theorem errorf_any (F : Interp) (x y : Int) (blk : Nat) (w : World) (hF : F.answers w.tape)
    (hc0 : w.cell? ⟨blk, 0, none⟩ = some (.iface 3 (.int .i64 x))) (hc1 : w.cell? ⟨blk, 1, none⟩ = some (.iface 3 (.int .i64 y))) :
    Calls Tryf.prog 14 #[.string ⟨#[34, 99, 111, 109, 112, 108, 101, 120, 105, 116, 121, 34, 32, 109, 117, 115, 116, 32, 98, 101, 32, 102, 114, 111, 109, 32, 49, 32, 116, 111, 32, 37, 100, 44, 32, 110, 111, 116, 32, 37, 100]⟩, .slice (some ⟨blk, 0, none⟩) 2 2] w fun e w' =>
      e = .returned (.iface 47 (.pointer (some ⟨w.heap.size, 0, none⟩))) ∧ ∃ txt, w' = (w.alloc (.cells #[.string txt] 49)).drew := by
  have hF' := answers_open hF
  go_enter Tryf.func14, Tryf.ntmps14
  go_wp2
  go_ret
  exact ⟨rfl, _, rfl⟩
end Go.Proofs.Qxb6001696aFmt
