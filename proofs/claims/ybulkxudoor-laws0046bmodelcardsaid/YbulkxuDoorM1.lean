import Derived.Test.YbulkxuDoorW1
namespace Go.Proofs.YbulkxuDoor
open Go.RowKit
set_option linter.all false

set_option maxHeartbeats 400000 in
theorem bcast_any (s : ByteArray) (a b c k : Int) (v : ByteArray) (hs : s.size ≤ 100000) (ha0 : -9223372036854775808 ≤ a) (ha1 : a ≤ 9223372036854775807)  (hb0 : -9223372036854775808 ≤ b) (hb1 : b ≤ 9223372036854775807) (hc0 : -9223372036854775808 ≤ c) (hc1 : c ≤ 9223372036854775807) {B : Nat} (w : World) (hT : Tab B w) (hB : B ≤ w.heap.size) :
    Calls Ybad.prog 24 #[.string s, .int .i64 a, .int .i64 b, .int .i64 c, .int .u8 k, .string v] w fun e w' => e = .returned (.agg #[.string s, .int .i64 a, .int .u8 1, .string (castSess s a b c), .int .u8 k, .string v, .string ⟨#[]⟩, .int .u8 0, .slice none 0 0, .string ⟨#[]⟩, .int .u8 0, .string ⟨#[]⟩, .int .i64 0]) ∧ w.grownBy w' none := by
  have sa := dec_size a ha0 ha1
  have sb := dec_size b hb0 hb1
  have sc := dec_size c hc0 hc1
  go_enter Ybad.func24, Ybad.ntmps24
  go_wp2_with fail
  refine (itoa_any a ha0 ha1 (B := B) _ (hT.none (World.grownBy_alloc _ _ _) hB)).mono ?_
  rintro e w1 ⟨rfl, g1⟩
  have hb := (g1.block w.heap.size (by simp) (by simp)).trans (heap_alloc_new w _)
  have G1 := gb_none (World.grownBy_alloc w _ none) g1
  have HB1 : Hid (_ = _) := hb
  have hT1 := hT.none G1 hB
  have hB1 := Nat.le_trans hB G1.size
  clear g1 hb
  go_wp2_with fail
  refine (itoa_any b hb0 hb1 w1 hT1).mono ?_
  rintro e w2 ⟨rfl, g2⟩
  have hT2 := hT1.none g2 hB1
  go_wp2_with fail
  refine (itoa_any c hc0 hc1 w2 hT2).mono ?_
  rintro e w3 ⟨rfl, g3⟩
  have G3 := gb_none (gb_none G1 g2) g3
  have HB : Hid (_ = _) := (g3.block w.heap.size (by have := (Array.getElem?_eq_some_iff.1 HB1.out).1; have := g2.size; omega) (by simp)).trans ((g2.block w.heap.size (Array.getElem?_eq_some_iff.1 HB1.out).1 (by simp)).trans HB1.out)
  clear G1 g2 g3 HB1 hT1 hT2 hB1
  go_wp2_with (refine wpList_store_row rfl 49 _ _ rfl w.heap.size _ rfl rfl _ _ HB.out rfl (by kernel_rfl) (msg_one s a 1 (castSess s a b c) k v 0) ?_)
  refine bodyPost_ret (v := .agg (msg s a 1 (castSess s a b c) k v 0).toArray) (results_cell_row Ybad.results24 _ _ w.heap.size _ _ _ _ rfl (heap_setRow_same HB.out) Ybad.underlying49 rfl (by kernel_rfl)) rfl ⟨rfl, ?_⟩
  exact ⟨G3.os, G3.tape, G3.output, by simpa using G3.size, fun i hi hn => (heap_setRow_other (by omega)).trans (G3.block i hi hn)⟩
end Go.Proofs.YbulkxuDoor
