import Derived.Test.YbulkzkFmtD1
namespace Go.Proofs.YbulkzkFmt
open Go.RowKit
set_option linter.all false

set_option maxRecDepth 100000 in
set_option maxHeartbeats 2000000 in
theorem plain_walk (l n u : Int) (hs : Bool) (w : World) (hT : Tab w.heap.size w) (l0 : -32768 ≤ l) (l1 : l ≤ 32767) (n0 : 0 ≤ n) (n1 : n ≤ 65535) (u0 : 0 ≤ u) (u1 : u ≤ 18446744073709551615) :
    Calls Ybaf.prog 3 #[.int .i16 l, .int .u16 n, .int .u64 u, .bool hs] w fun e w' => e = .returned (.bool true) ∧ Below w.heap.size w w' := by
  obtain ⟨m, hm⟩ : ∃ m, m = u % (n + 1) := ⟨_, rfl⟩
  have m0 : 0 ≤ m := by rw [hm]; exact Int.emod_nonneg _ (by omega)
  have m1 : m < n + 1 := by rw [hm]; exact Int.emod_lt_of_pos _ (by omega)
  have hd : ((n + 1) == 0) = false := beq_eq_false_iff_ne.2 (by omega)
  have hd2 : ¬ (n + 1 = 0) := by omega
  have hmm : u % (n + 1) = m := hm.symm
  have hmt : u.tmod (n + 1) = m := by rw [Int.tmod_eq_emod_of_nonneg u0]; exact hmm
  have hq1 : decide (l + m < l) = false := decide_eq_false (by omega)
  have hq2 : decide (l + n < l + m) = false := decide_eq_false (by omega)
  have hm' : m = u % (l + n - l + 1) := by rw [hm]; congr 1; omega
  have HT : Hid (Tab _ w) := hT
  have HM : Hid (_ = _) := hm'
  have gA : w.grownBy (w.alloc (.cells (itm l (l + n) 1 false hs) 27)) none := World.grownBy_alloc _ _ _
  have bA : BlkIs (w.alloc (.cells (itm l (l + n) 1 false hs) 27)) w.heap.size (itm l (l + n) 1 false hs) 27 := BlkIs.new _ _ _
  have hT1 : Tab w.heap.size (w.alloc (.cells (itm l (l + n) 1 false hs) 27)) := hT.none gA (Nat.le_refl _)
  have HD := draw_plain l (l + n) 1 u m hs w.heap.size w.heap.size (w.alloc (.cells (itm l (l + n) 1 false hs) 27)) hT1 (Nat.le_refl _) bA l0 (by omega) (by omega) u0 u1 hm'
  have HH : Hid (Calls _ _ _ _ _) := HD
  have GA : Hid (World.grownBy _ _ _) := gA
  have HT1 : Hid (Tab _ _) := hT1
  clear hm hT hm' bA HD gA hT1
  go_enter Ybaf.func3, Ybaf.ntmps3
  go_wp2_with fail
  refine Calls.mono HH ?_
  rintro e w1 ⟨rfl, g1, b1⟩
  have c0 : w1.cell? ⟨w.heap.size, 0, none⟩ = some (.int .i64 (l + m)) := by rw [b1.cells]; rfl
  have c1 : w1.cell? ⟨w.heap.size, 1, none⟩ = some (.int .i64 (l + m)) := by rw [b1.cells]; rfl
  have c2 : w1.cell? ⟨w.heap.size, 2, none⟩ = some (.int .i64 1) := by rw [b1.cells]; rfl
  have c3 : w1.cell? ⟨w.heap.size, 3, none⟩ = some (.bool false) := by rw [b1.cells]; rfl
  have c4 : w1.cell? ⟨w.heap.size, 4, none⟩ = some (.bool hs) := by rw [b1.cells]; rfl
  have hT2 : Tab w.heap.size w1 := Tab.gb (r := some w.heap.size) HT1 g1 (by simp) (fun k e => by cases e; exact Nat.le_refl _)
  have G1 : w.grownBy w1 none :=
    have GA' : w.grownBy (w.alloc (.cells (itm l (l + n) 1 false hs) 27)) none := GA
    ⟨g1.os, g1.tape, g1.output, Nat.le_trans (by simp) g1.size, fun i hi _ => (g1.block i (by simp; omega) (by simp; omega)).trans (GA'.block i hi (by simp))⟩
  have HG : Hid (World.grownBy _ _ _) := G1
  have HT2 : Hid (Tab _ w1) := hT2
  clear b1 g1 hT2 G1
  go_wp2_with fail
  refine (itoa_any (l + m) (by omega) (by omega) w1 HT2).mono ?_
  rintro e w2 ⟨rfl, g2⟩
  have G2 : w.grownBy w2 none := gb_none HG g2
  clear g2
  go_wp2_with fail
  go_ret
  exact ⟨rfl, gb_below G2 (Nat.le_refl _) (fun _ e => by cases e)⟩
end Go.Proofs.YbulkzkFmt
