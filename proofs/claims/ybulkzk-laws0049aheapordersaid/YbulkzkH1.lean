import Derived.Test.YbulkzkPopW
import Derived.Lib.VarintBits
import Derived.WalkSmall
namespace Go.Proofs.Ybulkzk
open Go.RowKit
set_option linter.all false

theorem mask30 (ns : Int) (h0 : 0 ≤ ns) (h1 : ns < 1000000000) : bits .and .u64 ns 1073741823 = ns := by
  have h := bits_and_u64_nat ns.toNat 1073741823 (by omega) (by omega)
  rw [show (1073741823 : Nat) = 2 ^ 30 - 1 by rfl, Nat.and_two_pow_sub_one_eq_mod, Int.toNat_of_nonneg h0] at h
  have h2 : ((ns.toNat % 2 ^ 30 : Nat) : Int) = ns := by omega
  exact h.trans h2
theorem high63 (ns : Int) (h0 : 0 ≤ ns) (h1 : ns < 1000000000) : bits .and .u64 ns 9223372036854775808 = 0 := by
  have h := bits_and_u64_nat ns.toNat 9223372036854775808 (by omega) (by omega)
  have h3 : ns.toNat &&& 9223372036854775808 = 0 := by
    apply Nat.eq_of_testBit_eq
    intro i
    rw [Nat.testBit_and, show (9223372036854775808 : Nat) = 2 ^ 63 by rfl, Nat.testBit_two_pow]
    by_cases e : 63 = i
    · subst e
      rw [Nat.testBit_lt_two_pow (by omega)]; simp
    · simp [e]
  rw [h3, Int.toNat_of_nonneg h0] at h
  exact h
theorem or0 (ns : Int) (h0 : 0 ≤ ns) (h1 : ns < 1000000000) : bits .or .u64 0 ns = ns := by
  have := u64_orv0 (y := 0) (x := ns) (by omega) (by omega) h0 (by omega) (by omega)
  omega
theorem andNot0 : bits .andNot .u64 0 1073741823 = 0 := by decide +kernel
theorem and00 : bits .and .u64 0 1073741823 = 0 := by decide +kernel

theorem gb_new {a b c : World} {k : Nat} (h : a.grownBy b none) (g : b.grownBy c (some k)) (hk : a.heap.size ≤ k) : a.grownBy c none :=
  gb_trans h g (fun i e hi => by cases e; omega)

/-- The three cells of the time z nanoseconds behind the zero time. -/
def tm (z : Int) : Array Value := #[.int .u64 (z % 1000000000), .int .i64 (z / 1000000000), .pointer none]

set_option maxHeartbeats 400000 in
theorem nsec_any (b o : Nat) (ns : Int) (w : World) (h0 : 0 ≤ ns) (h1 : ns < 1000000000) (hc : w.cell? ⟨b, o, none⟩ = some (.int .u64 ns)) :
    Calls Yba.prog 11 #[.pointer (some ⟨b, o, none⟩)] w fun e w' => e = .returned (.int .i32 ns) ∧ w' = w := by
  have q := mask30 ns h0 h1
  have q2 : wrap32 ns = ns := by unfold wrap32; omega
  go_enter Yba.func11, Yba.ntmps11
  go_wp2
  go_ret
  exact ⟨rfl, rfl⟩
set_option maxHeartbeats 400000 in
theorem sec_any (b o : Nat) (ns sc : Int) (w : World) (h0 : 0 ≤ ns) (h1 : ns < 1000000000) (hc : w.cell? ⟨b, o, none⟩ = some (.int .u64 ns)) (hc1 : w.cell? ⟨b, o + 1, none⟩ = some (.int .i64 sc)) :
    Calls Yba.prog 16 #[.pointer (some ⟨b, o, none⟩)] w fun e w' => e = .returned (.int .i64 sc) ∧ w' = w := by
  have q := high63 ns h0 h1
  have q2 : (bits .and .u64 ns 9223372036854775808 != 0) = false := by rw [q]; rfl
  go_enter Yba.func16, Yba.ntmps16
  go_wp2
  go_ret
  exact ⟨rfl, rfl⟩
set_option maxHeartbeats 800000 in
theorem addSec_any (b : Nat) (ns sc : Int) (w : World) (h0 : 0 ≤ ns) (h1 : ns < 1000000000) (s0 : -10000000000 ≤ sc) (s1 : sc ≤ 10000000000) (hb : BlkIs w b #[.int .u64 ns, .int .i64 0, .pointer none] 33) :
    Calls Yba.prog 12 #[.pointer (some ⟨b, 0, none⟩), .int .i64 sc] w fun e w' => e = .returned (.tuple #[]) ∧ w' = w.setCell ⟨b, 1, none⟩ (.int .i64 sc) := by
  have q := high63 ns h0 h1
  have q2 : (bits .and .u64 ns 9223372036854775808 != 0) = false := by rw [q]; rfl
  have c0 : w.cell? ⟨b, 0, none⟩ = some (.int .u64 ns) := by rw [hb.cells]; rfl
  have c1 : w.cell? ⟨b, 1, none⟩ = some (.int .i64 0) := by rw [hb.cells]; rfl
  have f1 : w.frozen? ⟨b, 1, none⟩ = false := frozen_of_row _ _ _ _ _ hb
  clear hb
  go_enter Yba.func12, Yba.ntmps12
  go_wp2
  refine bodyPost_end (results_none rfl _ _ _) rfl ?_
  exact ⟨rfl, rfl⟩

set_option maxRecDepth 100000 in
set_option maxHeartbeats 2000000 in
theorem add_any (z : Int) (w : World) (z0 : -9223372036854775808 ≤ z) (z1 : z ≤ 9223372036854775807) :
    Calls Yba.prog 6 #[.agg #[.int .u64 0, .int .i64 0, .pointer none], .int .i64 z] w fun e w' => e = .returned (.agg (tm z)) ∧ w.grownBy w' none := by
  obtain ⟨q, hq⟩ : ∃ q, z.tdiv 1000000000 = q := ⟨_, rfl⟩
  obtain ⟨r, hr⟩ : ∃ r, z.tmod 1000000000 = r := ⟨_, rfl⟩
  have h1 : z = q * 1000000000 + r := by rw [← hq, ← hr]; have := Int.mul_tdiv_add_tmod z 1000000000; omega
  have h2 : -1000000000 < r ∧ r < 1000000000 := by rw [← hr]; exact ⟨by have := Int.lt_tmod_of_pos z (b := 1000000000) (by omega); omega, Int.tmod_lt_of_pos _ (by omega)⟩
  obtain ⟨h2, h3⟩ := h2
  have e1 : IntKind.i32.wrap r = r := by simp [IntKind.wrap, IntKind.signed, IntKind.bits]; omega
  have e2 : wrap32 r = r := by unfold wrap32; omega
  have e3 : decide (1000000000 ≤ r) = false := decide_eq_false (by omega)
  have q0 : -9223372037 ≤ q := by omega
  have q1 : q ≤ 9223372037 := by omega
  have H1 : Hid (z = _) := h1
  clear h1
  have a1 := andNot0
  have a2 := and00
  go_enter Yba.func6, Yba.ntmps6
  go_wp2_with fail
  have B0 : BlkIs ((w.alloc (.cells #[.int .u64 0, .int .i64 0, .pointer none] 33)).alloc (.cells #[.int .u64 0, .int .i64 0, .pointer none] 33)) w.heap.size #[.int .u64 0, .int .i64 0, .pointer none] 33 := (BlkIs.new _ _ _).alloc _
  have B1 : BlkIs ((w.alloc (.cells #[.int .u64 0, .int .i64 0, .pointer none] 33)).alloc (.cells #[.int .u64 0, .int .i64 0, .pointer none] 33)) (w.heap.size + 1) #[.int .u64 0, .int .i64 0, .pointer none] 33 := BlkIs.newAt (by simp) _ _
  have G0 : w.grownBy ((w.alloc (.cells #[.int .u64 0, .int .i64 0, .pointer none] 33)).alloc (.cells #[.int .u64 0, .int .i64 0, .pointer none] 33)) none := gb_none (World.grownBy_alloc _ _ _) (World.grownBy_alloc _ _ _)
  refine (nsec_any w.heap.size 0 0 _ (by omega) (by omega) (by rw [B0.cells]; rfl)).mono ?_
  rintro e w1 ⟨rfl, rfl⟩
  generalize ((w.alloc (.cells #[.int .u64 0, .int .i64 0, .pointer none] 33)).alloc (.cells #[.int .u64 0, .int .i64 0, .pointer none] 33)) = w1 at B0 B1 G0 ⊢
  have c0 : w1.cell? ⟨w.heap.size, 0, none⟩ = some (.int .u64 0) := by rw [B0.cells]; rfl
  have f0 : w1.frozen? ⟨w.heap.size, 0, none⟩ = false := frozen_of_row _ _ _ _ _ B0
  have HB0 : Hid (BlkIs _ _ _ _) := B0
  have HB1 : Hid (BlkIs _ _ _ _) := B1
  have HG0 : Hid (World.grownBy _ _ _) := G0
  clear B0 B1 G0
  by_cases hneg : r < 0
  · have e4 : decide (r < 0) = true := decide_eq_true hneg
    have e5 := or0 (r + 1000000000) (by omega) (by omega)
    have e6 : wrap32 (r + 1000000000) = r + 1000000000 := by unfold wrap32; omega
    go_wp2_with fail
    have BB : BlkIs (w1.setCell ⟨w.heap.size, 0, none⟩ (.int .u64 (r + 1000000000))) w.heap.size #[.int .u64 (r + 1000000000), .int .i64 0, .pointer none] 33 := BlkIs.set (j := 0) HB0 _
    have BB1 : BlkIs (w1.setCell ⟨w.heap.size, 0, none⟩ (.int .u64 (r + 1000000000))) (w.heap.size + 1) #[.int .u64 0, .int .i64 0, .pointer none] 33 := BlkIs.setOther HB1 _ (by omega)
    refine (addSec_any w.heap.size (r + 1000000000) (q - 1) _ (by omega) (by omega) (by omega) (by omega) BB).mono ?_
    rintro e w2 ⟨rfl, rfl⟩
    have GG : w.grownBy ((w1.setCell ⟨w.heap.size, 0, none⟩ (.int .u64 (r + 1000000000))).setCell ⟨w.heap.size, 1, none⟩ (.int .i64 (q - 1))) none :=
      gb_new (gb_new HG0 (gb_setCell _ ⟨w.heap.size, 0, none⟩ _) (Nat.le_refl _)) (gb_setCell _ ⟨w.heap.size, 1, none⟩ _) (Nat.le_refl _)
    have BC := BB.set (j := 1) (.int .i64 (q - 1))
    have BC1 := BB1.setOther (c := w.heap.size) (j := 1) (.int .i64 (q - 1)) (by omega)
    generalize ((w1.setCell ⟨w.heap.size, 0, none⟩ (.int .u64 (r + 1000000000))).setCell ⟨w.heap.size, 1, none⟩ (.int .i64 (q - 1))) = w2 at GG BC BC1 ⊢
    have d0 : w2.cell? ⟨w.heap.size, 0, none⟩ = some (.int .u64 (r + 1000000000)) := by rw [BC.cells]; rfl
    have d1 : w2.cell? ⟨w.heap.size, 1, none⟩ = some (.int .i64 (q - 1)) := by rw [BC.cells]; rfl
    have d2 : w2.cell? ⟨w.heap.size, 2, none⟩ = some (.pointer none) := by rw [BC.cells]; rfl
    have d3 : w2.cell? ⟨w.heap.size + 1, 0, none⟩ = some (.int .u64 0) := by rw [BC1.cells]; rfl
    have d4 : w2.cell? ⟨w.heap.size + 1, 1, none⟩ = some (.int .i64 0) := by rw [BC1.cells]; rfl
    have d5 : w2.cell? ⟨w.heap.size + 1, 2, none⟩ = some (.pointer none) := by rw [BC1.cells]; rfl
    have f3 : w2.frozen? ⟨w.heap.size + 1, 0, none⟩ = false := frozen_of_row _ _ _ _ _ BC1
    have f4 : w2.frozen? ⟨w.heap.size + 1, 1, none⟩ = false := frozen_of_row _ _ _ _ _ BC1
    have f5 : w2.frozen? ⟨w.heap.size + 1, 2, none⟩ = false := frozen_of_row _ _ _ _ _ BC1
    have e7 := high63 (r + 1000000000) (by omega) (by omega)
    have e8 : (bits .and .u64 (r + 1000000000) 9223372036854775808 != 0) = false := by rw [e7]; rfl
    have HGG : Hid (World.grownBy _ _ _) := GG
    have HBC1 : Hid (BlkIs _ _ _ _) := BC1
    clear BB BB1 BC BC1 GG
    go_wp2_with fail
    have hm : z % 1000000000 = r + 1000000000 := by have h1 : z = q * 1000000000 + r := H1; omega
    have hd : z / 1000000000 = q - 1 := by have h1 : z = q * 1000000000 + r := H1; omega
    have hz : tm z = #[.int .u64 (r + 1000000000), .int .i64 (q - 1), .pointer none] := by unfold tm; rw [hm, hd]
    have hfin : BlkIs (((w2.setCell ⟨w.heap.size + 1, 0, none⟩ (.int .u64 (r + 1000000000))).setCell ⟨w.heap.size + 1, 1, none⟩ (.int .i64 (q - 1))).setCell ⟨w.heap.size + 1, 2, none⟩ (.pointer none)) (w.heap.size + 1) (tm z) 33 := by
      rw [hz]
      have B1 : BlkIs w2 (w.heap.size + 1) #[.int .u64 0, .int .i64 0, .pointer none] 33 := HBC1
      exact ((B1.set (j := 0) (.int .u64 (r + 1000000000))).set (j := 1) (.int .i64 (q - 1))).set (j := 2) (.pointer none)
    refine bodyPost_ret (v := .agg (tm z)) (results_cell_row Yba.results6 _ _ (w.heap.size + 1) _ _ _ _ rfl hfin Yba.underlying33 rfl (by kernel_rfl)) rfl ⟨rfl, ?_⟩
    · exact gb_new (gb_new (gb_new HGG (gb_setCell _ ⟨w.heap.size + 1, 0, none⟩ _) (Nat.le_succ _)) (gb_setCell _ ⟨w.heap.size + 1, 1, none⟩ _) (Nat.le_succ _)) (gb_setCell _ ⟨w.heap.size + 1, 2, none⟩ _) (Nat.le_succ _)
  · have e4 : decide (r < 0) = false := decide_eq_false hneg
    have e5 := or0 r (by omega) (by omega)
    go_wp2_with fail
    have BB : BlkIs (w1.setCell ⟨w.heap.size, 0, none⟩ (.int .u64 (r))) w.heap.size #[.int .u64 (r), .int .i64 0, .pointer none] 33 := BlkIs.set (j := 0) HB0 _
    have BB1 : BlkIs (w1.setCell ⟨w.heap.size, 0, none⟩ (.int .u64 (r))) (w.heap.size + 1) #[.int .u64 0, .int .i64 0, .pointer none] 33 := BlkIs.setOther HB1 _ (by omega)
    refine (addSec_any w.heap.size (r) (q) _ (by omega) (by omega) (by omega) (by omega) BB).mono ?_
    rintro e w2 ⟨rfl, rfl⟩
    have GG : w.grownBy ((w1.setCell ⟨w.heap.size, 0, none⟩ (.int .u64 (r))).setCell ⟨w.heap.size, 1, none⟩ (.int .i64 (q))) none :=
      gb_new (gb_new HG0 (gb_setCell _ ⟨w.heap.size, 0, none⟩ _) (Nat.le_refl _)) (gb_setCell _ ⟨w.heap.size, 1, none⟩ _) (Nat.le_refl _)
    have BC := BB.set (j := 1) (.int .i64 (q))
    have BC1 := BB1.setOther (c := w.heap.size) (j := 1) (.int .i64 (q)) (by omega)
    generalize ((w1.setCell ⟨w.heap.size, 0, none⟩ (.int .u64 (r))).setCell ⟨w.heap.size, 1, none⟩ (.int .i64 (q))) = w2 at GG BC BC1 ⊢
    have d0 : w2.cell? ⟨w.heap.size, 0, none⟩ = some (.int .u64 (r)) := by rw [BC.cells]; rfl
    have d1 : w2.cell? ⟨w.heap.size, 1, none⟩ = some (.int .i64 (q)) := by rw [BC.cells]; rfl
    have d2 : w2.cell? ⟨w.heap.size, 2, none⟩ = some (.pointer none) := by rw [BC.cells]; rfl
    have d3 : w2.cell? ⟨w.heap.size + 1, 0, none⟩ = some (.int .u64 0) := by rw [BC1.cells]; rfl
    have d4 : w2.cell? ⟨w.heap.size + 1, 1, none⟩ = some (.int .i64 0) := by rw [BC1.cells]; rfl
    have d5 : w2.cell? ⟨w.heap.size + 1, 2, none⟩ = some (.pointer none) := by rw [BC1.cells]; rfl
    have f3 : w2.frozen? ⟨w.heap.size + 1, 0, none⟩ = false := frozen_of_row _ _ _ _ _ BC1
    have f4 : w2.frozen? ⟨w.heap.size + 1, 1, none⟩ = false := frozen_of_row _ _ _ _ _ BC1
    have f5 : w2.frozen? ⟨w.heap.size + 1, 2, none⟩ = false := frozen_of_row _ _ _ _ _ BC1
    have e7 := high63 (r) (by omega) (by omega)
    have e8 : (bits .and .u64 (r) 9223372036854775808 != 0) = false := by rw [e7]; rfl
    have HGG : Hid (World.grownBy _ _ _) := GG
    have HBC1 : Hid (BlkIs _ _ _ _) := BC1
    clear BB BB1 BC BC1 GG
    go_wp2_with fail
    have hm : z % 1000000000 = r := by have h1 : z = q * 1000000000 + r := H1; omega
    have hd : z / 1000000000 = q := by have h1 : z = q * 1000000000 + r := H1; omega
    have hz : tm z = #[.int .u64 (r), .int .i64 (q), .pointer none] := by unfold tm; rw [hm, hd]
    have hfin : BlkIs (((w2.setCell ⟨w.heap.size + 1, 0, none⟩ (.int .u64 (r))).setCell ⟨w.heap.size + 1, 1, none⟩ (.int .i64 (q))).setCell ⟨w.heap.size + 1, 2, none⟩ (.pointer none)) (w.heap.size + 1) (tm z) 33 := by
      rw [hz]
      have B1 : BlkIs w2 (w.heap.size + 1) #[.int .u64 0, .int .i64 0, .pointer none] 33 := HBC1
      exact ((B1.set (j := 0) (.int .u64 (r))).set (j := 1) (.int .i64 (q))).set (j := 2) (.pointer none)
    refine bodyPost_ret (v := .agg (tm z)) (results_cell_row Yba.results6 _ _ (w.heap.size + 1) _ _ _ _ rfl hfin Yba.underlying33 rfl (by kernel_rfl)) rfl ⟨rfl, ?_⟩
    · exact gb_new (gb_new (gb_new HGG (gb_setCell _ ⟨w.heap.size + 1, 0, none⟩ _) (Nat.le_succ _)) (gb_setCell _ ⟨w.heap.size + 1, 1, none⟩ _) (Nat.le_succ _)) (gb_setCell _ ⟨w.heap.size + 1, 2, none⟩ _) (Nat.le_succ _)
end Go.Proofs.Ybulkzk
