/- CLOSED FACTS FOR THE WALK OVER fmt's STOPPED FRONT (after the guide's worked family Label, typed by hand at this dump's numbers): fmt.Sprintf is function 15; its one format here: "%s (and %d more invalid records)" over a string and an int. -/
import Derived.Test.YbulkcmquFmtRows
import Derived.Stop.CallBack
import Derived.Stop.IfaceNil
import GoSem.ClaimData
namespace Go.Proofs
open Go.Extern.Stop Go.Stop Go.Extern

theorem Ybaf.call15 (args : Array Value) (w : World) : (callFunc 15 args).run Ybaf.prog w = ((FmtStop.sprintf #[9, 63] #[9] args).run Ybaf.prog w).andThen fun v w' => .ok (.value v) w' :=
  run_callFunc_extern Ybaf.func15 (by kernel_rfl) (by kernel_rfl) (by kernel_rfl) (by kernel_rfl) args w

theorem Ybaf.guard (name : String) (w : World) : (FmtStop.guard name).run Ybaf.prog w = .ok () w := by kernel_rfl

def Ybaf.fmtText : Array UInt8 := #[37, 115, 32, 40, 97, 110, 100, 32, 37, 100, 32, 109, 111, 114, 101, 32, 105, 110, 118, 97, 108, 105, 100, 32, 114, 101, 99, 111, 114, 100, 115, 41]
theorem Ybaf.fmt2 : FmtStop.printed? ⟨#[37, 115, 32, 40, 97, 110, 100, 32, 37, 100, 32, 109, 111, 114, 101, 32, 105, 110, 118, 97, 108, 105, 100, 32, 114, 101, 99, 111, 114, 100, 115, 41]⟩ 2 = some [(0, 115, false), (1, 100, false)] := by kernel_rfl
theorem Ybaf.fmt2r (w : World) : (FmtDoors.printed ⟨#[37, 115, 32, 40, 97, 110, 100, 32, 37, 100, 32, 109, 111, 114, 101, 32, 105, 110, 118, 97, 108, 105, 100, 32, 114, 101, 99, 111, 114, 100, 115, 41]⟩ 2).run Ybaf.prog w = .ok [(0, 115, false), (1, 100, false)] w := by kernel_rfl
theorem Ybaf.fmt0r (w : World) : (FmtDoors.printed ⟨#[37, 115, 32, 40, 97, 110, 100, 32, 37, 100, 32, 109, 111, 114, 101, 32, 105, 110, 118, 97, 108, 105, 100, 32, 114, 101, 99, 111, 114, 100, 115, 41]⟩ 0).run Ybaf.prog w = .ok [] w := by kernel_rfl

def Ybaf.shape3 : List UInt8 := [5, 3, 0, 0, 0, 0, 0, 0, 0, 105, 110, 116]
theorem Ybaf.op3_100 (name : String) (x : Int) (w : World) : (FmtStop.operand name false 100 false (.iface 3 (.int .i64 x))).run Ybaf.prog w = .ok (Ybaf.shape3, Go.Extern.Stop.digits 8 (x % 2 ^ 64).toNat) w := by kernel_rfl
def Ybaf.shape9 : List UInt8 := [12, 6, 0, 0, 0, 0, 0, 0, 0, 115, 116, 114, 105, 110, 103]
theorem Ybaf.op9_115 (name : String) (x : ByteArray) (w : World) : (FmtStop.operand name false 115 false (.iface 9 (.string x))).run Ybaf.prog w = .ok (Ybaf.shape9, FmtStop.pack x.data.toList) w := by kernel_rfl
end Go.Proofs
