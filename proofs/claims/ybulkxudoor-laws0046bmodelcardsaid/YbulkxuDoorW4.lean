import Derived.Test.YbulkxuDoorW1
import Derived.WalkSpells
import Derived.WalkLawsBesides
namespace Go.Proofs.YbulkxuDoor
open Go.RowKit
set_option linter.all false

theorem eql_nil45 (w : World) : Sem.run Ybad.prog (binOp BinOp.eql 45 (Value.slice none 0 0) (Value.slice none 0 0)) w = .ok (.bool true) w := by kernel_rfl

set_option maxRecDepth 10000 in
set_option maxHeartbeats 1000000 in
theorem same_any (s : ByteArray) (it kd : Int) (cs : ByteArray) (ck : Int) (cv : ByteArray) (v : Int) (w : World) :
    Calls Ybad.prog 25 #[.agg (msg s it kd cs ck cv v).toArray, .agg (msg s it kd cs ck cv v).toArray] w fun e w' => e = .returned (.bool true) ∧ w.grownBy w' none := by
  have kn := eql_nil45
  unfold msg
  go_enter Ybad.func25, Ybad.ntmps25
  go_wp2_with fail
  go_ret
  exact ⟨rfl, gb_none (World.grownBy_alloc _ _ _) (World.grownBy_alloc _ _ _)⟩
end Go.Proofs.YbulkxuDoor
