import Derived.Test.YbulkzkFmtD2
namespace Go.Proofs.YbulkzkFmt
open Go.RowKit
set_option linter.all false

set_option maxRecDepth 100000 in
set_option maxHeartbeats 2000000 in
theorem stepped_walk (F : Go.Stop.Interp) (l n s u : Int) (hs : Bool) (w : World) (hF : F.answers w.tape) (l0 : -32768 ≤ l) (l1 : l ≤ 32767) (n0 : 0 ≤ n) (n1 : n ≤ 65535) (s0 : 0 ≤ s) (s1 : s ≤ 255) (u0 : 0 ≤ u) (u1 : u ≤ 18446744073709551615) :
    Calls Ybaf.prog 4 #[.int .i16 l, .int .u16 n, .int .u8 s, .int .u64 u, .bool hs] w fun e w' => e = .returned (.bool true) ∧ Below w.heap.size w w' := by
  obtain ⟨k, hk⟩ : ∃ k, k = min (s + 1) (n + 1) := ⟨_, rfl⟩
  obtain ⟨m, hm⟩ : ∃ m, m = u % k := ⟨_, rfl⟩
  have k0 : 1 ≤ k := by omega
  have m0 : 0 ≤ m := by rw [hm]; exact Int.emod_nonneg _ (by omega)
  have m1 : m < k := by rw [hm]; exact Int.emod_lt_of_pos _ (by omega)
  have kn : k ≤ n + 1 := by omega
  have ks : k ≤ s + 1 := by omega
  have hmt : u.tmod k = m := by rw [Int.tmod_eq_emod_of_nonneg u0]; exact hm.symm
  have hk' : k = min (s + 1) (l + n - l + 1) := by rw [hk]; congr 1; omega
  have gA : w.grownBy (w.alloc (.cells (itm l (l + n) (s + 1) true hs) 27)) none := World.grownBy_alloc _ _ _
  have bA : BlkIs (w.alloc (.cells (itm l (l + n) (s + 1) true hs) 27)) w.heap.size (itm l (l + n) (s + 1) true hs) 27 := BlkIs.new _ _ _
  have HD := draw_stepped F l (l + n) (s + 1) u m k hs w.heap.size (w.alloc (.cells (itm l (l + n) (s + 1) true hs) 27)) hF bA l0 (by omega) (by omega) (by omega) (by omega) u0 u1 hk' hm
  have HH : Hid (Calls _ _ _ _ _) := HD
  have GA : Hid (World.grownBy _ _ _) := gA
  have HM : Hid (m = u % k) := hm
  have HK : Hid (k = min (s + 1) (n + 1)) := hk
  clear hF hk' bA HD gA hm hk
  go_enter Ybaf.func4, Ybaf.ntmps4
  go_wp2_with fail
  refine Calls.mono HH ?_
  rintro e w1 ⟨⟨t, rfl⟩, g1, b1⟩
  have c0 : w1.cell? ⟨w.heap.size, 0, none⟩ = some (.int .i64 (l + m)) := by rw [b1.cells]; rfl
  have c1 : w1.cell? ⟨w.heap.size, 1, none⟩ = some (.int .i64 (l + n)) := by rw [b1.cells]; rfl
  have c2 : w1.cell? ⟨w.heap.size, 2, none⟩ = some (.int .i64 (s + 1)) := by rw [b1.cells]; rfl
  have c3 : w1.cell? ⟨w.heap.size, 3, none⟩ = some (.bool true) := by rw [b1.cells]; rfl
  have c4 : w1.cell? ⟨w.heap.size, 4, none⟩ = some (.bool hs) := by rw [b1.cells]; rfl
  have G1 : w.grownBy w1 none :=
    have GA' : w.grownBy (w.alloc (.cells (itm l (l + n) (s + 1) true hs) 27)) none := GA
    ⟨g1.os, g1.tape, g1.output, Nat.le_trans (by simp) g1.size, fun i hi _ => (g1.block i (by simp; omega) (by simp; omega)).trans (GA'.block i hi (by simp))⟩
  have HG : Hid (World.grownBy _ _ _) := G1
  clear b1 g1 G1
  have hq1 : decide (l + m < l) = false := decide_eq_false (by omega)
  have hq2 : decide (l + n < l + m) = false := decide_eq_false (by omega)
  have hd : (k == 0) = false := beq_eq_false_iff_ne.2 (by omega)
  have hd2 : ¬ (k = 0) := by omega
  by_cases hsp : n + 1 < s + 1
  · have e1 : k = n + 1 := by have hk : k = min (s + 1) (n + 1) := HK; omega
    subst e1
    have hx : decide (n + 1 < s + 1) = true := decide_eq_true hsp
    go_wp2_with fail
    go_ret
    exact ⟨rfl, gb_below HG (Nat.le_refl _) (fun _ e => by cases e)⟩
  · have e1 : k = s + 1 := by have hk : k = min (s + 1) (n + 1) := HK; omega
    subst e1
    have hx : decide (n + 1 < s + 1) = false := decide_eq_false hsp
    go_wp2_with fail
    go_ret
    exact ⟨rfl, gb_below HG (Nat.le_refl _) (fun _ e => by cases e)⟩
end Go.Proofs.YbulkzkFmt
