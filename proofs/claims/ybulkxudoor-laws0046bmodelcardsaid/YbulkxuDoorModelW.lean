import Derived.Test.YbulkxuDoorW5
import Derived.Test.YbulkxuDoorReach
import Derived.Test.YbulkxuDoorM3
namespace Go.Proofs.YbulkxuDoor
open Go.RowKit
set_option linter.all false

/-- The plain model lists what 'reach' sends. -/
theorem model_any (s : ByteArray) (n h : Nat) (id inp : Int) (q : Bool) (r k : Int) (w : World) (d : Nat) (hd : d ≤ 10) (hn : n ≤ 100) (hh : h ≤ 100) (hk : d = (k - r).toNat) (hs : s.size ≤ 100000)
    (hr0 : -9223372036854775808 ≤ r) (hr1 : r + 2 ≤ 9223372036854775807) (hk0 : -9223372036854775808 ≤ k) (hk1 : k + 2 ≤ 9223372036854775807)
    (hi0 : -9223372036854775808 ≤ id) (hi1 : id ≤ 9223372036854775807) (B : Nat) (hB : B ≤ w.heap.size) (hT : Tab B w) :
    Calls Ybad.prog 11 #[.string s, .int .i64 n, .int .i64 h, .int .i64 id, .int .i64 inp, .bool q, .int .i64 r, .int .i64 k] w fun e w' => ∃ v', e = .returned v' ∧ w'.ownsRow w.heap.size 83 14 v' (d * cnt n h q) (iters s n h id inp q r d) ∧ w.grownBy w' none := by
  cases q
  · exact model_c s n h id inp r k w d hd hn hh hk hs hr0 hr1 hk0 hk1 hi0 hi1 B hB hT
  · exact model_q s n h id inp r k w d (by omega) (by omega) hk hr0 hr1 hk0 hk1

set_option maxRecDepth 100000 in
set_option maxHeartbeats 4000000 in
theorem model_walk (s : ByteArray) (a b : Int) (id inp : Int) (q : Bool) (r c : Int) (w : World) (hT : Tab w.heap.size w) (hs : s.size ≤ 9223372036854775807)
    (ha0 : 0 ≤ a) (ha1 : a ≤ 255) (hb0 : 0 ≤ b) (hb1 : b ≤ 255) (hc0 : 0 ≤ c) (hc1 : c ≤ 255)
    (hi0 : -9223372036854775808 ≤ id) (hi1 : id ≤ 9223372036854775807) (hr0 : -9223372036854775808 ≤ r) (hr1 : r ≤ 9223372036854775807) :
    Calls Ybad.prog 5 #[.string s, .int .u8 a, .int .u8 b, .int .i64 id, .int .i64 inp, .bool q, .int .i64 r, .int .u8 c] w fun e w' => e = .returned (.bool true) ∧ Below w.heap.size w w' := by
  by_cases hlen : 1024 < s.size
  · go_enter Ybad.func5, Ybad.ntmps5
    go_wp2_with fail
    go_ret
    exact ⟨rfl, Below.refl _ _⟩
  by_cases hbig : 9223372036854775799 < r
  · go_enter Ybad.func5, Ybad.ntmps5
    go_wp2_with fail
    go_ret
    exact ⟨rfl, Below.refl _ _⟩
  by_cases hsmall : r < -9223372036854775799
  · go_enter Ybad.func5, Ybad.ntmps5
    go_wp2_with fail
    go_ret
    exact ⟨rfl, Below.refl _ _⟩
  obtain ⟨n, hn⟩ : ∃ n : Nat, a % 9 = n := Int.eq_ofNat_of_zero_le (by omega)
  have hn8 : n ≤ 8 := by omega
  obtain ⟨h, hh⟩ : ∃ h : Nat, b % ((n : Int) + 1) = h := Int.eq_ofNat_of_zero_le (Int.emod_nonneg _ (by omega))
  have hh8 : h ≤ 8 := by have := Int.emod_lt_of_pos b (show (0 : Int) < (n : Int) + 1 by omega); omega
  have HT : Hid (Tab w.heap.size w) := hT
  clear hT
  have hcn : cnt n h q ≤ 1000 := by
    have : n * (4 * n) ≤ 8 * (4 * 8) := Nat.mul_le_mul hn8 (Nat.mul_le_mul_left 4 hn8)
    unfold cnt; split <;> omega
  have E1 : BlkIs (w.alloc (.cells (eqv s n h id inp q r) 63)) w.heap.size (eqv s n h id inp q r) 63 := BlkIs.new w _ _
  have G0 := World.grownBy_alloc w (.cells (eqv s n h id inp q r) 63) none
  have T0 := HT.out.none G0 (Nat.le_refl _)
  by_cases hc2 : c % 6 ≤ 1
  · obtain ⟨t, ht⟩ : ∃ t : Nat, c % 6 = t := Int.eq_ofNat_of_zero_le (by omega)
    have ht1 : t ≤ 1 := by omega
    clear hc2
    go_enter Ybad.func5, Ybad.ntmps5
    go_wp2_with fail
    clear hn hh ht
    refine (reach_any s n h id inp q r (r + t - 1) w.heap.size w.heap.size _ 0 (by omega) (by omega) (by omega) (by omega) (by omega) (by omega) (by omega) (by omega) (by omega) hi0 hi1 (Nat.le_refl _) T0 E1).mono ?_
    rintro e w1 ⟨va, rfl, oa, g1, F1⟩
    have T1 := tab_of T0 g1 (by simp) (Nat.le_refl _)
    have H1 : w.heap.size < w1.heap.size := F1.lt
    go_wp2_with fail
    refine (model_any s n h id inp q r (r + t - 1) w1 0 (by omega) (by omega) (by omega) (by omega) (by omega) (by omega) (by omega) (by omega) (by omega) hi0 hi1 w.heap.size (by omega) T1).mono ?_
    rintro e w2 ⟨vb, rfl, ob, g2⟩
    have F2 := F1.gbn g2
    have oa := own_gbn oa g2
    go_wp2_with fail
    refine (sameall_any va vb _ _ _ _ _ (by omega) (Good.iters s n h id inp q r 0) oa ob).mono ?_
    rintro e w3 ⟨rfl, g3⟩
    have F3 := F2.gbn g3
    rw [show r + ((0 : Nat) : Int) = r by omega] at F3
    have cf := F3.cells
    unfold eqv at cf
    have hk : ¬ r < r + t - 1 := by omega
    go_wp2_with fail
    go_ret
    refine ⟨rfl, ?_⟩
    have G1 : Below w.heap.size w w1 := gb_below (gb_trans (gb_weak G0) g1 (fun i e hi => e)) (Nat.le_refl _) (fun k e => by cases e; exact Nat.le_refl _)
    exact (G1.trans (gb_below g2 (by omega) (fun k e => by cases e))).trans (gb_below g3 (by have := g2.size; omega) (fun k e => by cases e))
  · obtain ⟨d, ht⟩ : ∃ d : Nat, c % 6 = (d : Int) + 1 := by
      obtain ⟨t, ht⟩ : ∃ t : Nat, c % 6 - 1 = t := Int.eq_ofNat_of_zero_le (by omega)
      exact ⟨t, by omega⟩
    have hd1 : 1 ≤ d := by omega
    have hd4 : d ≤ 4 := by omega
    clear hc2
    go_enter Ybad.func5, Ybad.ntmps5
    go_wp2_with fail
    clear hn hh ht
    refine (reach_any s n h id inp q r (r + ((d : Int) + 1) - 1) w.heap.size w.heap.size _ d (by omega) (by omega) (by omega) (by omega) (by omega) (by omega) (by omega) (by omega) (by omega) hi0 hi1 (Nat.le_refl _) T0 E1).mono ?_
    rintro e w1 ⟨va, rfl, oa, g1, F1⟩
    have T1 := tab_of T0 g1 (by simp) (Nat.le_refl _)
    have H1 : w.heap.size < w1.heap.size := F1.lt
    go_wp2_with fail
    refine (model_any s n h id inp q r (r + ((d : Int) + 1) - 1) w1 d (by omega) (by omega) (by omega) (by omega) (by omega) (by omega) (by omega) (by omega) (by omega) hi0 hi1 w.heap.size (by omega) T1).mono ?_
    rintro e w2 ⟨vb, rfl, ob, g2⟩
    have F2 := F1.gbn g2
    have oa := own_gbn oa g2
    have hm : d * cnt n h q ≤ 4 * 1000 := Nat.mul_le_mul hd4 hcn
    go_wp2_with fail
    refine (sameall_any va vb _ _ _ _ _ (by omega) (Good.iters s n h id inp q r d) oa ob).mono ?_
    rintro e w3 ⟨rfl, g3⟩
    have F3 := F2.gbn g3
    have cf := F3.cells
    unfold eqv at cf
    have hk : r < r + ((d : Int) + 1) - 1 := by omega
    have hbe : (r + (d : Int) == r + ((d : Int) + 1) - 1) = true := beq_iff_eq.2 (by omega)
    go_wp2_with fail
    go_ret
    refine ⟨rfl, ?_⟩
    have G1 : Below w.heap.size w w1 := gb_below (gb_trans (gb_weak G0) g1 (fun i e hi => e)) (Nat.le_refl _) (fun k e => by cases e; exact Nat.le_refl _)
    exact (G1.trans (gb_below g2 (by omega) (fun k e => by cases e))).trans (gb_below g3 (by have := g2.size; omega) (fun k e => by cases e))
end Go.Proofs.YbulkxuDoor
