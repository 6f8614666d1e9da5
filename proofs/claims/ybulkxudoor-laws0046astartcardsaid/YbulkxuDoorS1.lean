import Derived.Test.YbulkxuDoorE
import Derived.Test.YbulkxuDoorStrs
import Derived.WalkSpells
import Derived.WalkLawsBesides
namespace Go.Proofs.YbulkxuDoor
open Go.RowKit
set_option linter.all false

theorem inS_eq (t : Int) : (⟨#[97, 99, 115, 47, 105, 110, 112, 117, 116, 47]⟩ : ByteArray) ++ dec t = inS t := by
  unfold inS acsT
  apply ByteArray.ext
  apply Array.ext'
  simp
theorem eql9 (s : ByteArray) (w : World) : (binOp .eql 9 (.string s) (.string s)).run Ybad.prog w = .ok (.bool true) w := by
  have hb : (s == s) = true := by
    obtain ⟨a⟩ := s
    show (a == a) = true
    exact beq_self_eq_true a
  go_simp

set_option maxRecDepth 10000 in
set_option maxHeartbeats 1000000 in
theorem cast_any (sd kd : Int) (v : ByteArray) (h0 : -9223372036854775808 ≤ sd) (h1 : sd ≤ 9223372036854775807) {B : Nat} (w : World) (hT : Tab B w) (hB : B ≤ w.heap.size) :
    Calls Ybad.prog 8 #[.agg (amsg sd kd v).toArray, .int .i64 sd, .int .u8 kd, .string v] w fun e w' => e = .returned (.bool true) ∧ w.grownBy w' none := by
  have hT0 : Hid (Tab B (w.alloc (.cells (amsg sd kd v).toArray 51))) := hT.none (World.grownBy_alloc _ _ _) hB
  have B0 : Hid (BlkIs (w.alloc (.cells (amsg sd kd v).toArray 51)) w.heap.size (amsg sd kd v).toArray 51) := BlkIs.new _ _ _
  have sj := dec_size sd h0 h1
  have hin := inS_eq sd
  have s10 : ¬ 9223372036854775807 < 10 + (dec sd).size := by omega
  have q9 := eql9
  clear hT
  unfold amsg acsT
  go_enter Ybad.func8, Ybad.ntmps8
  go_wp2_with fail
  go_region_held3 (fun w' => ∀ o, w'.cell? ⟨w.heap.size, o, none⟩ = (#[.string ⟨#[97, 99, 115]⟩, .int .u8 1, .string (inS sd), .int .u8 kd, .string v, .string ⟨#[]⟩, .int .i64 0, .int .u8 0, .string ⟨#[]⟩, .int .u8 0, .string ⟨#[]⟩, .string ⟨#[]⟩, .int .u8 0, .slice none 0 0, .string ⟨#[]⟩, .int .u8 0, .string ⟨#[]⟩, .int .i64 0] : Array Value)[o]?)
    (first | exact B0.out.cells | exact (B0.out.gbn (gb_undrew g1)).cells)
    (first | (go_at_call 9; refine (itoa_any sd h0 h1 (B := B) _ (by exact tab_drew hT0.out)).mono ?_; rintro e w1 ⟨rfl, g1⟩))
  go_wp2_with fail
  go_ret
  exact ⟨rfl, gb_none (World.grownBy_alloc _ _ _) (gb_undrew g1)⟩
end Go.Proofs.YbulkxuDoor
