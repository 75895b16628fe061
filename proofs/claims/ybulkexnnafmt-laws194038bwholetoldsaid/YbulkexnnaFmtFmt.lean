/-
  The closed facts for a walk over fmt's stopped front at this dump: what each literal format parses to, what an int and a string read as. After the guide's Label texts, turned to this program.
-/
import Derived.Test.YbulkexnnaFmtProg
import Derived.Stop.CallBack
import Derived.Stop.IfaceNil
import Derived.Stop.FmtTextWidths
import Derived.Stop.FmtTextKit
import GoSem.ClaimData
namespace Go.Proofs
open Go.Extern.Stop Go.Stop Go.Extern

theorem Ybaf.call9 (args : Array Value) (w : World) : (callFunc 9 args).run Ybaf.prog w = ((FmtStop.sprintf #[9, 53] #[9] args).run Ybaf.prog w).andThen fun v w' => .ok (.value v) w' :=
  run_callFunc_extern Ybaf.func9 (by kernel_rfl) (by kernel_rfl) (by kernel_rfl) (by kernel_rfl) args w

theorem Ybaf.guard (name : String) (w : World) : (FmtStop.guard name).run Ybaf.prog w = .ok () w := by kernel_rfl

-- character reference &%s; is out of range
def Ybaf.fb0 : List UInt8 := [99, 104, 97, 114, 97, 99, 116, 101, 114, 32, 114, 101, 102, 101, 114, 101, 110, 99, 101, 32, 38, 37, 115, 59, 32, 105, 115, 32, 111, 117, 116, 32, 111, 102, 32, 114, 97, 110, 103, 101]
theorem Ybaf.fmt0 : FmtStop.printed? ⟨#[99, 104, 97, 114, 97, 99, 116, 101, 114, 32, 114, 101, 102, 101, 114, 101, 110, 99, 101, 32, 38, 37, 115, 59, 32, 105, 115, 32, 111, 117, 116, 32, 111, 102, 32, 114, 97, 110, 103, 101]⟩ 1 = some [(0, 115, false)] := by kernel_rfl
theorem Ybaf.fmt0r (w : World) : (FmtDoors.printed ⟨#[99, 104, 97, 114, 97, 99, 116, 101, 114, 32, 114, 101, 102, 101, 114, 101, 110, 99, 101, 32, 38, 37, 115, 59, 32, 105, 115, 32, 111, 117, 116, 32, 111, 102, 32, 114, 97, 110, 103, 101]⟩ 1).run Ybaf.prog w = .ok [(0, 115, false)] w := by kernel_rfl
theorem Ybaf.fmt0t : (FmtText.parse [99, 104, 97, 114, 97, 99, 116, 101, 114, 32, 114, 101, 102, 101, 114, 101, 110, 99, 101, 32, 38, 37, 115, 59, 32, 105, 115, 32, 111, 117, 116, 32, 111, 102, 32, 114, 97, 110, 103, 101]).map FmtText.glue = some [.lit [99, 104, 97, 114, 97, 99, 116, 101, 114, 32, 114, 101, 102, 101, 114, 101, 110, 99, 101, 32, 38], .verb {} 115, .lit [59, 32, 105, 115, 32, 111, 117, 116, 32, 111, 102, 32, 114, 97, 110, 103, 101]] := by rfl
-- malformed character reference &%s;
def Ybaf.fb1 : List UInt8 := [109, 97, 108, 102, 111, 114, 109, 101, 100, 32, 99, 104, 97, 114, 97, 99, 116, 101, 114, 32, 114, 101, 102, 101, 114, 101, 110, 99, 101, 32, 38, 37, 115, 59]
theorem Ybaf.fmt1 : FmtStop.printed? ⟨#[109, 97, 108, 102, 111, 114, 109, 101, 100, 32, 99, 104, 97, 114, 97, 99, 116, 101, 114, 32, 114, 101, 102, 101, 114, 101, 110, 99, 101, 32, 38, 37, 115, 59]⟩ 1 = some [(0, 115, false)] := by kernel_rfl
theorem Ybaf.fmt1r (w : World) : (FmtDoors.printed ⟨#[109, 97, 108, 102, 111, 114, 109, 101, 100, 32, 99, 104, 97, 114, 97, 99, 116, 101, 114, 32, 114, 101, 102, 101, 114, 101, 110, 99, 101, 32, 38, 37, 115, 59]⟩ 1).run Ybaf.prog w = .ok [(0, 115, false)] w := by kernel_rfl
theorem Ybaf.fmt1t : (FmtText.parse [109, 97, 108, 102, 111, 114, 109, 101, 100, 32, 99, 104, 97, 114, 97, 99, 116, 101, 114, 32, 114, 101, 102, 101, 114, 101, 110, 99, 101, 32, 38, 37, 115, 59]).map FmtText.glue = some [.lit [109, 97, 108, 102, 111, 114, 109, 101, 100, 32, 99, 104, 97, 114, 97, 99, 116, 101, 114, 32, 114, 101, 102, 101, 114, 101, 110, 99, 101, 32, 38], .verb {} 115, .lit [59]] := by rfl
-- character reference &%s; names no XML character
def Ybaf.fb2 : List UInt8 := [99, 104, 97, 114, 97, 99, 116, 101, 114, 32, 114, 101, 102, 101, 114, 101, 110, 99, 101, 32, 38, 37, 115, 59, 32, 110, 97, 109, 101, 115, 32, 110, 111, 32, 88, 77, 76, 32, 99, 104, 97, 114, 97, 99, 116, 101, 114]
theorem Ybaf.fmt2 : FmtStop.printed? ⟨#[99, 104, 97, 114, 97, 99, 116, 101, 114, 32, 114, 101, 102, 101, 114, 101, 110, 99, 101, 32, 38, 37, 115, 59, 32, 110, 97, 109, 101, 115, 32, 110, 111, 32, 88, 77, 76, 32, 99, 104, 97, 114, 97, 99, 116, 101, 114]⟩ 1 = some [(0, 115, false)] := by kernel_rfl
theorem Ybaf.fmt2r (w : World) : (FmtDoors.printed ⟨#[99, 104, 97, 114, 97, 99, 116, 101, 114, 32, 114, 101, 102, 101, 114, 101, 110, 99, 101, 32, 38, 37, 115, 59, 32, 110, 97, 109, 101, 115, 32, 110, 111, 32, 88, 77, 76, 32, 99, 104, 97, 114, 97, 99, 116, 101, 114]⟩ 1).run Ybaf.prog w = .ok [(0, 115, false)] w := by kernel_rfl
theorem Ybaf.fmt2t : (FmtText.parse [99, 104, 97, 114, 97, 99, 116, 101, 114, 32, 114, 101, 102, 101, 114, 101, 110, 99, 101, 32, 38, 37, 115, 59, 32, 110, 97, 109, 101, 115, 32, 110, 111, 32, 88, 77, 76, 32, 99, 104, 97, 114, 97, 99, 116, 101, 114]).map FmtText.glue = some [.lit [99, 104, 97, 114, 97, 99, 116, 101, 114, 32, 114, 101, 102, 101, 114, 101, 110, 99, 101, 32, 38], .verb {} 115, .lit [59, 32, 110, 97, 109, 101, 115, 32, 110, 111, 32, 88, 77, 76, 32, 99, 104, 97, 114, 97, 99, 116, 101, 114]] := by rfl
--  (the first %d of %d %s)
def Ybaf.fb3 : List UInt8 := [32, 40, 116, 104, 101, 32, 102, 105, 114, 115, 116, 32, 37, 100, 32, 111, 102, 32, 37, 100, 32, 37, 115, 41]
theorem Ybaf.fmt3 : FmtStop.printed? ⟨#[32, 40, 116, 104, 101, 32, 102, 105, 114, 115, 116, 32, 37, 100, 32, 111, 102, 32, 37, 100, 32, 37, 115, 41]⟩ 3 = some [(0, 100, false), (1, 100, false), (2, 115, false)] := by kernel_rfl
theorem Ybaf.fmt3r (w : World) : (FmtDoors.printed ⟨#[32, 40, 116, 104, 101, 32, 102, 105, 114, 115, 116, 32, 37, 100, 32, 111, 102, 32, 37, 100, 32, 37, 115, 41]⟩ 3).run Ybaf.prog w = .ok [(0, 100, false), (1, 100, false), (2, 115, false)] w := by kernel_rfl
theorem Ybaf.fmt3t : (FmtText.parse [32, 40, 116, 104, 101, 32, 102, 105, 114, 115, 116, 32, 37, 100, 32, 111, 102, 32, 37, 100, 32, 37, 115, 41]).map FmtText.glue = some [.lit [32, 40, 116, 104, 101, 32, 102, 105, 114, 115, 116, 32], .verb {} 100, .lit [32, 111, 102, 32], .verb {} 100, .lit [32], .verb {} 115, .lit [41]] := by rfl

-- type 3: int; type 9: string
def Ybaf.shape3 : List UInt8 := [5, 3, 0, 0, 0, 0, 0, 0, 0, 105, 110, 116]
theorem Ybaf.op3_100 (name : String) (x : Int) (w : World) : (FmtStop.operand name false 100 false (.iface 3 (.int .i64 x))).run Ybaf.prog w = .ok (Ybaf.shape3, Go.Extern.Stop.digits 8 (x % 2 ^ 64).toNat) w := by kernel_rfl
def Ybaf.shape9 : List UInt8 := [12, 6, 0, 0, 0, 0, 0, 0, 0, 115, 116, 114, 105, 110, 103]
theorem Ybaf.op9_115 (name : String) (x : ByteArray) (w : World) : (FmtStop.operand name false 115 false (.iface 9 (.string x))).run Ybaf.prog w = .ok (Ybaf.shape9, FmtStop.pack x.data.toList) w := by kernel_rfl

end Go.Proofs
