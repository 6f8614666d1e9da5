import Derived.Test.YbulkxuDoorW1
namespace Go.Proofs.YbulkxuDoor
open Go.RowKit
set_option linter.all false

/-- The one byte of a step's value. -/
def byteStr (b : Int) : ByteArray := strOfNums [b % 256]
theorem byteStr_wrap (x : Int) : byteStr (wrap64 x) = byteStr x := by
  have : wrap64 x % 256 = x % 256 := by unfold wrap64; omega
  unfold byteStr; rw [this]
theorem conv1 (b : Int) (w : World) : Sem.run Ybad.prog (convert 84 9 (Value.slice (some { block := w.heap.size, off := 0 }) 1 1)) (w.alloc (Obj.cells #[Value.int IntKind.u8 (b % 256)] 5)) = .ok (.string (byteStr b)) (w.alloc (Obj.cells #[Value.int IntKind.u8 (b % 256)] 5)) :=
  run_convert_bytes_arg (w.alloc (Obj.cells #[Value.int IntKind.u8 (b % 256)] 5)) 84 5 Ybad.underlying84 Ybad.underlying5 w.heap.size 0 1 1 [b % 256] rfl (by
    intro i hi
    obtain rfl : i = 0 := by simp at hi; omega
    go_simp) 9 Ybad.underlying9

set_option maxHeartbeats 400000 in
theorem step_no (b : Int) (w : World) :
    Calls Ybad.prog 21 #[.int .i64 b, .bool false] w fun e w' => e = .returned (.string (byteStr b)) ∧ w.grownBy w' none := by
  have kc := conv1 b w
  go_enter Ybad.func21, Ybad.ntmps21
  go_wp2_with fail
  go_ret
  exact ⟨rfl, World.grownBy_alloc _ _ _⟩

set_option maxRecDepth 10000 in
set_option maxHeartbeats 400000 in
theorem step_yes (b : Int) (w : World) :
    Calls Ybad.prog 21 #[.int .i64 b, .bool true] w fun e w' => e = .returned (.string (byteStr (b + 2))) ∧ w.grownBy w' none := by
  have kc := conv1 (wrap64 (b + 2)) w
  go_enter Ybad.func21, Ybad.ntmps21
  go_wp2_with fail
  go_ret
  exact ⟨congrArg (fun s => Ending.returned (Value.string s)) (byteStr_wrap _), World.grownBy_alloc _ _ _⟩
end Go.Proofs.YbulkxuDoor
