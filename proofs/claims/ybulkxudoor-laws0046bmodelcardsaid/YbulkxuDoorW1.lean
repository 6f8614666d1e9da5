import Derived.Test.YbulkxuDoorKit
namespace Go.Proofs.YbulkxuDoor
open Go.RowKit
set_option linter.all false

def slash : ByteArray := ⟨#[47]⟩
def castSess (s : ByteArray) (a b c : Int) : ByteArray := s ++ slash ++ dec a ++ slash ++ dec b ++ slash ++ dec c

set_option maxHeartbeats 400000 in
theorem castSession_any (s : ByteArray) (a b c : Int) (hs : s.size ≤ 100000) (ha0 : -9223372036854775808 ≤ a) (ha1 : a ≤ 9223372036854775807)  (hb0 : -9223372036854775808 ≤ b) (hb1 : b ≤ 9223372036854775807) (hc0 : -9223372036854775808 ≤ c) (hc1 : c ≤ 9223372036854775807) {B : Nat} (w : World) (hT : Tab B w) (hB : B ≤ w.heap.size) :
    Calls Ybad.prog 31 #[.string s, .int .i64 a, .int .i64 b, .int .i64 c] w fun e w' => e = .returned (.string (castSess s a b c)) ∧ w.grownBy w' none := by
  have sa := dec_size a ha0 ha1
  have sb := dec_size b hb0 hb1
  have sc := dec_size c hc0 hc1
  go_enter Ybad.func31, Ybad.ntmps31
  go_wp2_with fail
  refine (itoa_any a ha0 ha1 w hT).mono ?_
  rintro e w1 ⟨rfl, g1⟩
  have hT1 := hT.none g1 hB
  have hB1 := Nat.le_trans hB g1.size
  go_wp2_with fail
  refine (itoa_any b hb0 hb1 w1 hT1).mono ?_
  rintro e w2 ⟨rfl, g2⟩
  have hT2 := hT1.none g2 hB1
  go_wp2_with fail
  refine (itoa_any c hc0 hc1 w2 hT2).mono ?_
  rintro e w3 ⟨rfl, g3⟩
  go_wp2_with fail
  go_ret
  exact ⟨rfl, gb_none (gb_none g1 g2) g3⟩

/-- A message of the agreement, cell by cell. -/
def msg (s : ByteArray) (it kd : Int) (cs : ByteArray) (ck : Int) (cv : ByteArray) (v : Int) : List Value :=
  [.string s, .int .i64 it, .int .u8 kd, .string cs, .int .u8 ck, .string cv, .string ⟨#[]⟩, .int .u8 0, .slice none 0 0, .string ⟨#[]⟩, .int .u8 0, .string ⟨#[]⟩, .int .i64 v]

theorem msg_one (s : ByteArray) (it kd : Int) (cs : ByteArray) (ck : Int) (cv : ByteArray) (v : Int) : ∀ u ∈ msg s it kd cs ck cv v, u.oneCell' = true := by
  intro u hu
  simp [msg] at hu
  rcases hu with h | h | h | h | h | h | h | h | h | h | h | h | h <;> subst h <;> rfl

set_option maxHeartbeats 400000 in
theorem abaCast_any (s : ByteArray) (a b c k : Int) (v : ByteArray) (hs : s.size ≤ 100000) (ha0 : -9223372036854775808 ≤ a) (ha1 : a ≤ 9223372036854775807)  (hb0 : -9223372036854775808 ≤ b) (hb1 : b ≤ 9223372036854775807) (hc0 : -9223372036854775808 ≤ c) (hc1 : c ≤ 9223372036854775807) {B : Nat} (w : World) (hT : Tab B w) (hB : B ≤ w.heap.size) :
    Calls Ybad.prog 22 #[.string s, .int .i64 a, .int .i64 b, .int .i64 c, .int .u8 k, .string v] w fun e w' => e = .returned (.agg (msg s a 1 (castSess s a b c) k v 0).toArray) ∧ w.grownBy w' none := by
  go_enter Ybad.func22, Ybad.ntmps22
  go_wp2_with fail
  refine (castSession_any s a b c hs ha0 ha1 hb0 hb1 hc0 hc1 (B := B) _ ?_ ?_).mono ?_
  · exact hT.none (World.grownBy_alloc _ _ _) hB
  · simp; omega
  rintro e w1 ⟨rfl, g1⟩
  have hb1 := (g1.block w.heap.size (by simp) (by simp)).trans (heap_alloc_new w _)
  have G1 := gb_none (World.grownBy_alloc w _ none) g1
  clear g1
  have HB := hb1
  have HB : Hid (_ = _) := hb1
  clear hb1
  go_wp2_with (refine wpList_store_row rfl 49 _ _ rfl w.heap.size _ rfl rfl _ _ HB.out rfl (by kernel_rfl) (msg_one s a 1 (castSess s a b c) k v 0) ?_)
  refine bodyPost_ret (v := .agg (msg s a 1 (castSess s a b c) k v 0).toArray) (results_cell_row Ybad.results22 _ _ w.heap.size _ _ _ _ rfl (heap_setRow_same HB.out) Ybad.underlying49 rfl (by kernel_rfl)) rfl ⟨rfl, ?_⟩
  exact ⟨G1.os, G1.tape, G1.output, by simpa using G1.size, fun i hi hn => (heap_setRow_other (by omega)).trans (G1.block i hi hn)⟩
end Go.Proofs.YbulkxuDoor
