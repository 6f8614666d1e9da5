import Derived.Test.YbulkxuDoorW4
import Derived.Test.YbulkxuDoorPlain
import Derived.Test.YbulkxuDoorW2
import Derived.Deep.RegionHeld3
import Derived.Deep.MidRow
namespace Go.Proofs.YbulkxuDoor
open Go.RowKit
set_option linter.all false

/-- The thirteen cells of a message that lies at offset o of block g. -/
def MsgAt (w : World) (g k : Nat) (s : ByteArray) (it kd : Int) (cs : ByteArray) (ck : Int) (cv : ByteArray) (v : Int) : Prop :=
  w.cell? ⟨g, k * 14 + 1, none⟩ = some (.string s) ∧ w.cell? ⟨g, k * 14 + 1 + 1, none⟩ = some (.int .i64 it) ∧ w.cell? ⟨g, k * 14 + 1 + 2, none⟩ = some (.int .u8 kd) ∧ w.cell? ⟨g, k * 14 + 1 + 3, none⟩ = some (.string cs) ∧ w.cell? ⟨g, k * 14 + 1 + 4, none⟩ = some (.int .u8 ck) ∧ w.cell? ⟨g, k * 14 + 1 + 5, none⟩ = some (.string cv) ∧ w.cell? ⟨g, k * 14 + 1 + 6, none⟩ = some (.string ⟨#[]⟩) ∧ w.cell? ⟨g, k * 14 + 1 + 7, none⟩ = some (.int .u8 0) ∧ w.cell? ⟨g, k * 14 + 1 + 8, none⟩ = some (.slice none 0 0) ∧ w.cell? ⟨g, k * 14 + 1 + 9, none⟩ = some (.string ⟨#[]⟩) ∧ w.cell? ⟨g, k * 14 + 1 + 10, none⟩ = some (.int .u8 0) ∧ w.cell? ⟨g, k * 14 + 1 + 11, none⟩ = some (.string ⟨#[]⟩) ∧ w.cell? ⟨g, k * 14 + 1 + 12, none⟩ = some (.int .i64 v)
theorem msgAt_of {w : World} {g k : Nat} {s : ByteArray} {it kd : Int} {cs : ByteArray} {ck : Int} {cv : ByteArray} {v : Int} (h : w.rangeAt g (k * 14 + 1) (msg s it kd cs ck cv v)) : MsgAt w g k s it kd cs ck cv v :=
  ⟨by simpa using h 0 _ rfl, by simpa using h 1 _ rfl, by simpa using h 2 _ rfl, by simpa using h 3 _ rfl, by simpa using h 4 _ rfl, by simpa using h 5 _ rfl, by simpa using h 6 _ rfl, by simpa using h 7 _ rfl, by simpa using h 8 _ rfl, by simpa using h 9 _ rfl, by simpa using h 10 _ rfl, by simpa using h 11 _ rfl, by simpa using h 12 _ rfl⟩
theorem MsgAt.gb {w w' : World} {g k : Nat} {s : ByteArray} {it kd : Int} {cs : ByteArray} {ck : Int} {cv : ByteArray} {v : Int} (h : MsgAt w g k s it kd cs ck cv v) (hg : w.grownBy w' none) (hb : g < w.heap.size) : MsgAt w' g k s it kd cs ck cv v := by
  obtain ⟨h0, h1, h2, h3, h4, h5, h6, h7, h8, h9, h10, h11, h12⟩ := h
  have f : ∀ o, w'.cell? ⟨g, o, none⟩ = w.cell? ⟨g, o, none⟩ := fun o => hg.cell_far _ hb (by simp)
  unfold MsgAt
  simp only [f]
  exact ⟨h0, h1, h2, h3, h4, h5, h6, h7, h8, h9, h10, h11, h12⟩

theorem rangeAt_gb {w w' : World} {b o : Nat} {cs : List Value} {r : Option Nat} (h : w.rangeAt b o cs) (hg : w.grownBy w' r) (hb : b < w.heap.size) (hr : some b ≠ r) : w'.rangeAt b o cs :=
  fun j v hv => (hg.cell_far _ hb hr).trans (h j v hv)

set_option maxHeartbeats 400000 in
theorem sameall_nil (oa ob : Option Addr) (ca cb : Nat) (w : World) :
    Calls Ybad.prog 12 #[.slice oa 0 ca, .slice ob 0 cb] w fun e w' => e = .returned (.bool true) ∧ w.grownBy w' none := by
  go_enter Ybad.func12, Ybad.ntmps12
  go_wp2_with fail
  refine wp_loop_rounds 1 ?_
  rw [rounds_succ]
  go_wp2_with fail
  go_ret
  exact ⟨rfl, gb_refl _ _⟩

theorem cells_of_good {w : World} {g : Nat} {cur : Array Value} {xs : List Value} {n k : Nat} {t : Int} {m : List Value} (hm : m.length = 13) (hg : w.heap[g]? = some (.cells cur 83 (0, 0))) (hx : cur.toList.take (n * 14) = xs) (hk : k < n)
    (hd : (xs.drop (k * 14)).take 14 = .int .i64 t :: m) : w.cell? ⟨g, k * 14, none⟩ = some (.int .i64 t) ∧ w.rangeAt g (k * 14 + 1) m := by
  have key : ∀ j u, (Value.int .i64 t :: m)[j]? = some u → w.cell? ⟨g, k * 14 + j, none⟩ = some u := by
    intro j u hu
    rw [← hd, ← hx, List.getElem?_take, List.getElem?_drop, List.getElem?_take] at hu
    rw [cell_of_row w g _ cur 83 (0, 0) hg]
    split at hu
    · split at hu
      · simpa using hu
      · cases hu
    · cases hu
  refine ⟨by simpa using key 0 _ rfl, fun j u hu => ?_⟩
  have := key (j + 1) u (by simpa using hu)
  rw [Nat.add_assoc, Nat.add_comm 1 j]; exact this

set_option maxRecDepth 100000 in
set_option maxHeartbeats 2000000 in
theorem sameall_pos (ga gb ca cb : Nat) (cura curb : Array Value) (n : Nat) (xs : List Value) (w : World) (hn : n ≤ 10000000) (hg : Good xs n)
    (ha : w.heap[ga]? = some (.cells cura 83 (0, 0))) (hb : w.heap[gb]? = some (.cells curb 83 (0, 0))) (hxa : cura.toList.take (n * 14) = xs) (hxb : curb.toList.take (n * 14) = xs) (hca : n ≤ ca) (hcb : n ≤ cb) :
    Calls Ybad.prog 12 #[.slice (some ⟨ga, 0, none⟩) n ca, .slice (some ⟨gb, 0, none⟩) n cb] w fun e w' => e = .returned (.bool true) ∧ w.grownBy w' none := by
  have HA : Hid (_ = _) := ha
  have HB : Hid (_ = _) := hb
  have HXA : Hid (_ = _) := hxa
  have HXB : Hid (_ = _) := hxb
  have HG : Hid (Good xs n) := hg
  clear ha hb hxa hxb hg
  go_enter Ybad.func12, Ybad.ntmps12
  go_wp2_with fail
  go_loopw [5] (fun i wr => ∃ k : Nat, k ≤ n ∧ i = .int .i64 k ∧ w.grownBy wr none) (fun i _ => n - (intOf i).toNat)
  case atStart => exact ⟨0, Nat.zero_le _, rfl, gb_refl _ _⟩
  case round =>
    obtain ⟨k, hk, rfl, hgr⟩ := hrel
    have HGR : Hid (w.grownBy wr none) := hgr
    clear hgr
    by_cases hlt : k < n
    · obtain ⟨t, s, it, kd, cs, ck, cv, v, hd⟩ := HG.out.2 k hlt
      have la := (Array.getElem?_eq_some_iff.1 HA.out).1
      have lb := (Array.getElem?_eq_some_iff.1 HB.out).1
      obtain ⟨a1, a2⟩ := cells_of_good (m := msg s it kd cs ck cv v) rfl ((HGR.out.block _ la (by simp)).trans HA.out) HXA.out hlt hd
      obtain ⟨b1, b2⟩ := cells_of_good (m := msg s it kd cs ck cv v) rfl ((HGR.out.block _ lb (by simp)).trans HB.out) HXB.out hlt hd
      have la' : ga < wr.heap.size := Nat.lt_of_lt_of_le la HGR.out.size
      have lb' : gb < wr.heap.size := Nat.lt_of_lt_of_le lb HGR.out.size
      clear hd la lb
      have hk0 : (0 : Int) ≤ (k : Int) := Int.natCast_nonneg _
      have hk1 : (k : Int) < (n : Int) := by omega
      have ma := msgAt_of a2
      have mb := msgAt_of b2
      clear a2 b2
      go_wp2_with fail
      go_region_held3 (fun w' => w'.cell? ⟨ga, k * 14, none⟩ = some (.int .i64 t) ∧ w'.cell? ⟨gb, k * 14, none⟩ = some (.int .i64 t) ∧ (w'.cell? ⟨ga, k * 14 + 1, none⟩ = some (.string s) ∧ w'.cell? ⟨ga, k * 14 + 1 + 1, none⟩ = some (.int .i64 it) ∧ w'.cell? ⟨ga, k * 14 + 1 + 2, none⟩ = some (.int .u8 kd) ∧ w'.cell? ⟨ga, k * 14 + 1 + 3, none⟩ = some (.string cs) ∧ w'.cell? ⟨ga, k * 14 + 1 + 4, none⟩ = some (.int .u8 ck) ∧ w'.cell? ⟨ga, k * 14 + 1 + 5, none⟩ = some (.string cv) ∧ w'.cell? ⟨ga, k * 14 + 1 + 6, none⟩ = some (.string ⟨#[]⟩) ∧ w'.cell? ⟨ga, k * 14 + 1 + 7, none⟩ = some (.int .u8 0) ∧ w'.cell? ⟨ga, k * 14 + 1 + 8, none⟩ = some (.slice none 0 0) ∧ w'.cell? ⟨ga, k * 14 + 1 + 9, none⟩ = some (.string ⟨#[]⟩) ∧ w'.cell? ⟨ga, k * 14 + 1 + 10, none⟩ = some (.int .u8 0) ∧ w'.cell? ⟨ga, k * 14 + 1 + 11, none⟩ = some (.string ⟨#[]⟩) ∧ w'.cell? ⟨ga, k * 14 + 1 + 12, none⟩ = some (.int .i64 v)) ∧ (w'.cell? ⟨gb, k * 14 + 1, none⟩ = some (.string s) ∧ w'.cell? ⟨gb, k * 14 + 1 + 1, none⟩ = some (.int .i64 it) ∧ w'.cell? ⟨gb, k * 14 + 1 + 2, none⟩ = some (.int .u8 kd) ∧ w'.cell? ⟨gb, k * 14 + 1 + 3, none⟩ = some (.string cs) ∧ w'.cell? ⟨gb, k * 14 + 1 + 4, none⟩ = some (.int .u8 ck) ∧ w'.cell? ⟨gb, k * 14 + 1 + 5, none⟩ = some (.string cv) ∧ w'.cell? ⟨gb, k * 14 + 1 + 6, none⟩ = some (.string ⟨#[]⟩) ∧ w'.cell? ⟨gb, k * 14 + 1 + 7, none⟩ = some (.int .u8 0) ∧ w'.cell? ⟨gb, k * 14 + 1 + 8, none⟩ = some (.slice none 0 0) ∧ w'.cell? ⟨gb, k * 14 + 1 + 9, none⟩ = some (.string ⟨#[]⟩) ∧ w'.cell? ⟨gb, k * 14 + 1 + 10, none⟩ = some (.int .u8 0) ∧ w'.cell? ⟨gb, k * 14 + 1 + 11, none⟩ = some (.string ⟨#[]⟩) ∧ w'.cell? ⟨gb, k * 14 + 1 + 12, none⟩ = some (.int .i64 v)))
        (first | exact ⟨a1, b1, ma, mb⟩ | exact ⟨(g1.cell_far _ la' (by simp)).trans a1, (g1.cell_far _ lb' (by simp)).trans b1, MsgAt.gb ma (gb_none (gb_drew wr none) g1) la', MsgAt.gb mb (gb_none (gb_drew wr none) g1) lb'⟩) (first | (go_at_call 25; refine (same_any s it kd cs ck cv v _).mono ?_; rintro e w1 ⟨rfl, g1⟩))
      have G1 := gb_none (gb_none HGR.out (gb_drew wr none)) g1
      go_wp2_with fail
      go_roundw
      case rel => exact ⟨k + 1, by omega, by go_num, G1⟩
      case measure => simp [intOf]; omega
    · go_wp2_with fail
      go_ret
      exact ⟨rfl, HGR.out⟩

/-- Two rows of the same messages are the same. -/
theorem sameall_any (va vb : Value) (n B B' : Nat) (xs : List Value) (w : World) (hn : n ≤ 10000000) (hg : Good xs n) (ha : w.ownsRow B 83 14 va n xs) (hb : w.ownsRow B' 83 14 vb n xs) :
    Calls Ybad.prog 12 #[va, vb] w fun e w' => e = .returned (.bool true) ∧ w.grownBy w' none := by
  rcases ha.2 with ⟨rfl, h0⟩ | ⟨ga, ca, cura, rfl, _, ha1, ha2, _, _, ha3⟩ <;> rcases hb.2 with ⟨rfl, h0'⟩ | ⟨gb, cb, curb, rfl, _, hb1, hb2, _, _, hb3⟩
  · exact sameall_nil _ _ _ _ w
  · subst h0; exact sameall_nil _ _ _ _ w
  · subst h0'; exact sameall_nil _ _ _ _ w
  · exact sameall_pos ga gb ca cb cura curb n xs w hn hg ha1 hb1 ha3 hb3 ha2 hb2
end Go.Proofs.YbulkxuDoor
