import Derived.Test.YbulkxuDoorW5
import Derived.Test.YbulkxuDoorApp
import Derived.Test.YbulkxuDoorReach
namespace Go.Proofs.YbulkxuDoor
open Go.RowKit
set_option linter.all false

theorem own_row {w : World} {B e size : Nat} {v : Value} {n : Nat} {xs : List Value} (h : w.ownsRow B e size v n xs) : ∃ o c, v = .slice o n c := by
  rcases h.2 with ⟨rfl, rfl⟩ | ⟨g, cap, cur, rfl, _⟩
  · exact ⟨_, _, rfl⟩
  · exact ⟨_, _, rfl⟩

theorem own_ne {w w' : World} {B e size : Nat} {v : Value} {n : Nat} {xs : List Value} {r : Option Nat} (h : w.ownsRow B e size v n xs) (g : w.grownBy w' r) (hne : ∀ k, v.ownBlock = some k → some k ≠ r) : w'.ownsRow B e size v n xs :=
  h.kept g (by
    cases hv : v.ownBlock with
    | none => exact .inl rfl
    | some k => exact .inr (hne k hv))

set_option maxRecDepth 100000 in
set_option maxHeartbeats 4000000 in
theorem split_walk (s : ByteArray) (a b : Int) (id inp : Int) (q : Bool) (r c d : Int) (w : World) (hT : Tab w.heap.size w) (hs : s.size ≤ 9223372036854775807)
    (ha0 : 0 ≤ a) (ha1 : a ≤ 255) (hb0 : 0 ≤ b) (hb1 : b ≤ 255) (hc0 : 0 ≤ c) (hc1 : c ≤ 255) (hd0 : 0 ≤ d) (hd1 : d ≤ 255)
    (hi0 : -9223372036854775808 ≤ id) (hi1 : id ≤ 9223372036854775807) (hr0 : -9223372036854775808 ≤ r) (hr1 : r ≤ 9223372036854775807) :
    Calls Ybad.prog 6 #[.string s, .int .u8 a, .int .u8 b, .int .i64 id, .int .i64 inp, .bool q, .int .i64 r, .int .u8 c, .int .u8 d] w fun e w' => e = .returned (.bool true) ∧ Below w.heap.size w w' := by
  by_cases hlen : 1024 < s.size
  · go_enter Ybad.func6, Ybad.ntmps6
    go_wp2_with fail
    go_ret
    exact ⟨rfl, Below.refl _ _⟩
  by_cases hbig : 9223372036854775799 < r
  · go_enter Ybad.func6, Ybad.ntmps6
    go_wp2_with fail
    go_ret
    exact ⟨rfl, Below.refl _ _⟩
  by_cases hsmall : r < -9223372036854775799
  · go_enter Ybad.func6, Ybad.ntmps6
    go_wp2_with fail
    go_ret
    exact ⟨rfl, Below.refl _ _⟩
  obtain ⟨n, hn⟩ : ∃ n : Nat, a % 9 = n := Int.eq_ofNat_of_zero_le (by omega)
  have hn8 : n ≤ 8 := by omega
  obtain ⟨h, hh⟩ : ∃ h : Nat, b % ((n : Int) + 1) = h := Int.eq_ofNat_of_zero_le (Int.emod_nonneg _ (by omega))
  have hh8 : h ≤ 8 := by have := Int.emod_lt_of_pos b (show (0 : Int) < (n : Int) + 1 by omega); omega
  obtain ⟨d1, hd1'⟩ : ∃ n : Nat, c % 3 = n := Int.eq_ofNat_of_zero_le (by omega)
  obtain ⟨d2, hd2'⟩ : ∃ n : Nat, d % 3 = n := Int.eq_ofNat_of_zero_le (by omega)
  have hd1b : d1 ≤ 2 := by omega
  have hd2b : d2 ≤ 2 := by omega
  have HT : Hid (Tab w.heap.size w) := hT
  obtain ⟨i0, hi, hz0, hz1, hz2⟩ := info_parts Ybad.info83
  clear hT
  go_enter Ybad.func6, Ybad.ntmps6
  go_wp2_with fail
  have hcn : cnt n h q ≤ 1000 := by
    have : n * (4 * n) ≤ 8 * (4 * 8) := Nat.mul_le_mul hn8 (Nat.mul_le_mul_left 4 hn8)
    unfold cnt; split <;> omega
  clear hn hh hd1' hd2'
  have E1 : BlkIs (w.alloc (.cells (eqv s n h id inp q r) 63)) w.heap.size (eqv s n h id inp q r) 63 := BlkIs.new w _ _
  have E1' := E1.alloc (.cells (eqv s n h id inp q r) 63)
  have E2 : BlkIs ((w.alloc (.cells (eqv s n h id inp q r) 63)).alloc (.cells (eqv s n h id inp q r) 63)) (w.heap.size + 1) (eqv s n h id inp q r) 63 := heap_alloc2_new _ _ _
  have G0 := gb_none (World.grownBy_alloc w (.cells (eqv s n h id inp q r) 63) none) (World.grownBy_alloc _ (.cells (eqv s n h id inp q r) 63) none)
  have T0 := HT.out.none G0 (Nat.le_refl _)
  refine (reach_any s n h id inp q r (r + d1) w.heap.size w.heap.size _ d1 (by omega) (by omega) (by omega) (by omega) (by omega) (by omega) (by omega) (by omega) (by omega) hi0 hi1 (Nat.le_refl _) T0 E1').mono ?_
  rintro e w1 ⟨va, rfl, oa, g1, F1⟩
  have T1 := tab_of T0 g1 (by simp; omega) (Nat.le_refl _)
  have E2 := E2.gb g1 (by simp)
  have H1 : w.heap.size + 1 < w1.heap.size := E2.lt
  go_wp2_with fail
  refine (reach_any s n h id inp q (r + d1) (r + d1 + d2) w.heap.size w.heap.size _ d2 (by omega) (by omega) (by omega) (by omega) (by omega) (by omega) (by omega) (by omega) (by omega) hi0 hi1 (Nat.le_refl _) T1 F1).mono ?_
  rintro e w2 ⟨vb, rfl, ob, g2, F2⟩
  have T2 := tab_of T1 g2 (by omega) (Nat.le_refl _)
  have E2 := E2.gb g2 (by simp)
  have oa := oa.kept g2 (by right; intro e; have := (oa.lt _ e).1; simp at this; omega)
  have H2 : w.heap.size + 1 < w2.heap.size := E2.lt
  go_wp2_with fail
  refine (reach_any s n h id inp q r (r + d1 + d2) (w.heap.size + 1) w.heap.size _ (d1 + d2) (by omega) (by omega) (by omega) (by omega) (by omega) (by omega) (by omega) (by omega) (by omega) hi0 hi1 (by omega) T2 E2).mono ?_
  rintro e w3 ⟨vc, rfl, oc, g3, F3⟩
  have T3 := tab_of T2 g3 (by omega) (by omega)
  have F2 := F2.gb g3 (by simp)
  have oa := oa.kept g3 (by right; intro e; have := (oa.lt _ e).1; simp at this; omega)
  have ob := ob.kept g3 (by right; intro e; have := (ob.lt _ e).1; omega)
  have H3 : w.heap.size + 1 < w3.heap.size := F3.lt
  have tok1 : True := trivial
  have hm1 : d1 * cnt n h q ≤ 2 * 1000 := Nat.mul_le_mul hd1b hcn
  have hm2 : d2 * cnt n h q ≤ 2 * 1000 := Nat.mul_le_mul hd2b hcn
  go_wp2_with (first
    | (at_builtin; have _t := tok1; refine wpList_append_row _ rfl _ _ _ rfl w3.heap.size _ 83 i0 _ 14 176 Ybad.underlying64 hi hz0 hz1 hz2 rfl (by omega) (.slice none 0 0) 0 [] (by rfl) (by exact World.ownsRow_nil _ _ _ _) va (d1 * cnt n h q) _ (by rfl) (by exact oa) (by exact (Good.iters s n h id inp q r d1).cells) (by unfold maxLen; omega) (by omega) (by exact Nat.le_refl _) ?_; intro v4 w4 o4 g4 at4; clear tok1)
    | (at_builtin; refine wpList_append_row _ rfl _ _ _ rfl w3.heap.size _ 83 i0 _ 14 176 Ybad.underlying64 hi hz0 hz1 hz2 rfl (by omega) v4 (0 + d1 * cnt n h q) _ (by rfl) (by exact o4) vb (d2 * cnt n h q) _ (by rfl) (by exact own_gbn ob g4) (by exact (Good.iters s n h id inp q (r + d1) d2).cells) (by unfold maxLen; omega) (by omega) (by exact g4.size) ?_; intro v5 w5 o5 g5 at5))
  have nb : ∀ x, x < w3.heap.size → some x ≠ v4.ownBlock := fun x hx e => by have := (o4.lt x e.symm).1; omega
  have F2 := (F2.gbn g4).gb g5 (nb _ (by omega))
  have F3 := (F3.gbn g4).gb g5 (nb _ (by omega))
  have oc := own_ne (own_gbn oc g4) g5 (fun k e => nb k (oc.lt k e).2)
  have hx : iters s n h id inp q r (d1 + d2) = [] ++ iters s n h id inp q r d1 ++ iters s n h id inp q (r + d1) d2 := by rw [iters_add]; rfl
  have hcnt : 0 + d1 * cnt n h q + d2 * cnt n h q = (d1 + d2) * cnt n h q := by rw [Nat.add_mul]; omega
  rw [← hx, hcnt] at o5
  have hm3 : (d1 + d2) * cnt n h q ≤ 4 * 1000 := Nat.mul_le_mul (by omega) hcn
  have T5 := (T3.none g4 (by omega)).gb g5 (by have := g4.size; omega) (fun k e => by have := (o4.lt k e).1; omega)
  have hB5 : w.heap.size + 1 < w5.heap.size := F3.lt
  go_wp2_with fail
  refine (sameall_any v5 vc _ _ _ _ _ (by omega) (Good.iters s n h id inp q r (d1 + d2)) o5 oc).mono ?_
  rintro e w6 ⟨rfl, g6⟩
  have F2 := F2.gbn g6
  have F3 := F3.gbn g6
  have T6 := T5.none g6 (by omega)
  clear hx hcnt
  go_wp2_with fail
  refine (reach_any s n h id inp q (r + ((d1 + d2 : Nat) : Int)) (r + d1 + d2) (w.heap.size + 1) w.heap.size _ 0 (by omega) (by omega) (by omega) (by omega) (by omega) (by omega) (by omega) (by omega) (by omega) hi0 hi1 (by omega) T6 F3).mono ?_
  rintro e w7 ⟨v7, rfl, o7, g7, F7⟩
  have F2 := F2.gb g7 (by simp)
  obtain ⟨s7, c7, rfl⟩ := own_row o7
  have cf2 := F2.cells
  have cf7 := F7.cells
  unfold eqv at cf2 cf7
  go_wp2_with fail
  go_ret
  refine ⟨?_, ?_⟩
  · exact congrArg (fun b => Ending.returned (Value.bool b)) (beq_iff_eq.2 (show r + ((d1 : Int) + d2) = r + d1 + d2 by omega))
  · have G3 : Below w.heap.size w w3 := gb_below (gb_trans (gb_trans (gb_trans (gb_weak G0) g1 (fun i e hi => e)) g2 (fun i e hi => e)) g3 (fun i e hi => by cases e; omega)) (Nat.le_refl _) (fun k e => by cases e; exact Nat.le_refl _)
    exact (((G3.trans (gb_below g4 (by omega) (fun k e => by cases e))).trans (gb_below g5 (by have := g4.size; omega) (fun k e => by have := (o4.lt k e).1; omega))).trans (gb_below g6 (by omega) (fun k e => by cases e))).trans (gb_below g7 (by have := g6.size; omega) (fun k e => by cases e; omega))
end Go.Proofs.YbulkxuDoor
