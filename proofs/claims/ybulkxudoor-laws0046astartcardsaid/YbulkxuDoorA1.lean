import Derived.Test.YbulkxuDoorBlk
namespace Go.Proofs.YbulkxuDoor
open Go.RowKit
set_option linter.all false

/-- The text "acs". -/
def acsT : ByteArray := ⟨#[97, 99, 115]⟩
/-- The session of agreement j. -/
def agS (j : Int) : ByteArray := acsT ++ ⟨#[47, 97, 98, 97]⟩ ++ ⟨#[47]⟩ ++ dec j
/-- The session of a sender's input broadcast. -/
def inS (j : Int) : ByteArray := acsT ++ ⟨#[47, 105, 110, 112, 117, 116, 47]⟩ ++ dec j
/-- What is set against a value. -/
def notS (v : ByteArray) : ByteArray := (⟨#[110, 111, 116, 45]⟩ : ByteArray) ++ v

set_option maxHeartbeats 400000 in
theorem agreement_any (j : Int) (h0 : -9223372036854775808 ≤ j) (h1 : j ≤ 9223372036854775807) {B : Nat} (w : World) (hT : Tab B w) :
    Calls Ybad.prog 13 #[.string ⟨#[97, 99, 115]⟩, .int .i64 j] w fun e w' => e = .returned (.string (agS j)) ∧ w.grownBy w' none := by
  have sj := dec_size j h0 h1
  go_enter Ybad.func13, Ybad.ntmps13
  go_wp2_with (first | (go_at_call 9; refine (itoa_any j h0 h1 w hT).mono ?_; rintro e w1 ⟨rfl, g1⟩) | go_in)
  go_ret
  exact ⟨rfl, g1⟩

set_option maxHeartbeats 400000 in
theorem input_any (j : Int) (h0 : -9223372036854775808 ≤ j) (h1 : j ≤ 9223372036854775807) {B : Nat} (w : World) (hT : Tab B w) :
    Calls Ybad.prog 29 #[.string ⟨#[97, 99, 115]⟩, .int .i64 j] w fun e w' => e = .returned (.string (inS j)) ∧ w.grownBy w' none := by
  have sj := dec_size j h0 h1
  go_enter Ybad.func29, Ybad.ntmps29
  go_wp2_with (first | (go_at_call 9; refine (itoa_any j h0 h1 w hT).mono ?_; rintro e w1 ⟨rfl, g1⟩))
  go_ret
  exact ⟨rfl, g1⟩

set_option maxHeartbeats 400000 in
theorem equivocated_any (v : ByteArray) (hv : v.size ≤ 140737488355328) (w : World) :
    Calls Ybad.prog 17 #[.string v] w fun e w' => e = .returned (.string (notS v)) ∧ w' = w := by
  go_enter Ybad.func17, Ybad.ntmps17
  go_wp2
  go_ret
  exact ⟨rfl, rfl⟩

/-- A message of the agreement on a common subset that carries a cast, cell by cell. -/
def amsg (sd : Int) (kd : Int) (v : ByteArray) : List Value :=
  [.string acsT, .int .u8 1, .string (inS sd), .int .u8 kd, .string v, .string ⟨#[]⟩, .int .i64 0, .int .u8 0, .string ⟨#[]⟩, .int .u8 0, .string ⟨#[]⟩, .string ⟨#[]⟩, .int .u8 0, .slice none 0 0, .string ⟨#[]⟩, .int .u8 0, .string ⟨#[]⟩, .int .i64 0]
theorem amsg_one (sd kd : Int) (v : ByteArray) : ∀ u ∈ amsg sd kd v, u.oneCell' = true := by
  intro u hu
  simp only [amsg, List.mem_cons, List.not_mem_nil, or_false] at hu
  rcases hu with rfl | rfl | rfl | rfl | rfl | rfl | rfl | rfl | rfl | rfl | rfl | rfl | rfl | rfl | rfl | rfl | rfl | rfl <;> rfl

set_option maxHeartbeats 400000 in
theorem acsCast_any (sd kd : Int) (v : ByteArray) (h0 : -9223372036854775808 ≤ sd) (h1 : sd ≤ 9223372036854775807) {B : Nat} (w : World) (hT : Tab B w) (hB : B ≤ w.heap.size) :
    Calls Ybad.prog 16 #[.int .i64 sd, .int .u8 kd, .string v] w fun e w' => e = .returned (.agg #[.string acsT, .int .u8 1, .string (inS sd), .int .u8 kd, .string v, .string ⟨#[]⟩, .int .i64 0, .int .u8 0, .string ⟨#[]⟩, .int .u8 0, .string ⟨#[]⟩, .string ⟨#[]⟩, .int .u8 0, .slice none 0 0, .string ⟨#[]⟩, .int .u8 0, .string ⟨#[]⟩, .int .i64 0]) ∧ w.grownBy w' none := by
  go_enter Ybad.func16, Ybad.ntmps16
  go_wp2_with fail
  refine (input_any sd h0 h1 (B := B) _ (hT.none (World.grownBy_alloc _ _ _) hB)).mono ?_
  rintro e w1 ⟨rfl, g1⟩
  have hb1 := (g1.block w.heap.size (by simp) (by simp)).trans (heap_alloc_new w _)
  have G1 := gb_none (World.grownBy_alloc w _ none) g1
  clear g1
  have HB : Hid (_ = _) := hb1
  clear hb1
  go_wp2_with (refine wpList_store_row rfl 51 _ _ rfl w.heap.size _ rfl rfl _ _ HB.out rfl (by kernel_rfl) (amsg_one sd kd v) ?_)
  refine bodyPost_ret (v := .agg (amsg sd kd v).toArray) (results_cell_row Ybad.results16 _ _ w.heap.size _ _ _ _ rfl (heap_setRow_same HB.out) Ybad.underlying51 rfl (by kernel_rfl)) rfl ⟨rfl, ?_⟩
  exact ⟨G1.os, G1.tape, G1.output, by simpa using G1.size, fun i hi hn => (heap_setRow_other (by omega)).trans (G1.block i hi hn)⟩

set_option maxHeartbeats 400000 in
theorem newEq_any (N F : Int) (c2 c3 c4 c5 : Value) (o2 : c2.oneCell' = true) (o3 : c3.oneCell' = true) (o4 : c4.oneCell' = true) (o5 : c5.oneCell' = true) (s : ByteArray) (id inp : Int) (q : Bool) (w : World) (h0 : 0 ≤ F) (h1 : F ≤ N) (h2 : N ≤ 1000) :
    Calls Ybad.prog 28 #[.agg #[.int .i64 N, .int .i64 F, c2, c3, c4, c5], .string s, .int .i64 id, .int .i64 inp, .bool q] w fun e w' => ∃ b, e = .returned (.pointer (some ⟨b, 0, none⟩)) ∧ w.heap.size ≤ b ∧ BlkIs w' b #[.string s, .int .i64 N, .int .i64 (N - F), .int .i64 id, .int .i64 inp, .bool q, .int .i64 0] 63 ∧ w.grownBy w' none := by
  go_enter Ybad.func28, Ybad.ntmps28
  go_wp2
  go_ret
  refine ⟨_, rfl, ?_, heap_alloc2_new _ _ _, gb_none (World.grownBy_alloc _ _ _) (World.grownBy_alloc _ _ _)⟩
  omega
end Go.Proofs.YbulkxuDoor
