import Derived.Test.YbulkzkH1
namespace Go.Proofs.Ybulkzk
open Go.RowKit
set_option linter.all false

theorem high63b (x y : Int) (h0 : 0 ≤ x) (h1 : x < 1000000000) (k0 : 0 ≤ y) (k1 : y < 1000000000) : bits .and .u64 (bits .and .u64 x y) 9223372036854775808 = 0 := by
  have h := bits_and_u64_nat x.toNat y.toNat (by omega) (by omega)
  rw [Int.toNat_of_nonneg h0, Int.toNat_of_nonneg k0] at h
  have hl : x.toNat &&& y.toNat ≤ x.toNat := Nat.and_le_left
  rw [h]
  exact high63 _ (by omega) (by omega)

set_option maxRecDepth 100000 in
set_option maxHeartbeats 2000000 in
theorem before_any (x y : Int) (w : World) :
    Calls Yba.prog 9 #[.agg (tm x), .agg (tm y)] w fun e w' => e = .returned (.bool (decide (x < y))) ∧ w.grownBy w' none := by
  have x0 : 0 ≤ x % 1000000000 := by omega
  have x1 : x % 1000000000 < 1000000000 := by omega
  have y0 : 0 ≤ y % 1000000000 := by omega
  have y1 : y % 1000000000 < 1000000000 := by omega
  have B0 : BlkIs ((w.alloc (.cells (tm x) 33)).alloc (.cells (tm y) 33)) w.heap.size (tm x) 33 := (BlkIs.new _ _ _).alloc _
  have B1 : BlkIs ((w.alloc (.cells (tm x) 33)).alloc (.cells (tm y) 33)) (w.heap.size + 1) (tm y) 33 := BlkIs.newAt (by simp) _ _
  have G0 : w.grownBy ((w.alloc (.cells (tm x) 33)).alloc (.cells (tm y) 33)) none := gb_none (World.grownBy_alloc _ _ _) (World.grownBy_alloc _ _ _)
  have hx : decide (x < y) = (decide (x / 1000000000 < y / 1000000000) || (x / 1000000000 == y / 1000000000) && decide (x % 1000000000 < y % 1000000000)) := by
    rw [Bool.eq_iff_iff]; simp; omega
  have HX : Hid (decide (x < y) = _) := hx
  clear hx
  unfold tm at *
  generalize hxs : x / 1000000000 = xs at *
  generalize hxn : x % 1000000000 = xn at *
  generalize hys : y / 1000000000 = ys at *
  generalize hyn : y % 1000000000 = yn at *
  have c0 := B0.cells
  have c1 := B1.cells
  have a1 := high63b xn yn x0 x1 y0 y1
  have a2 : (bits .and .u64 (bits .and .u64 xn yn) 9223372036854775808 != 0) = false := by rw [a1]; rfl
  have HB0 : Hid (BlkIs _ _ _ _) := B0
  have HB1 : Hid (BlkIs _ _ _ _) := B1
  have HG0 : Hid (World.grownBy _ _ _) := G0
  clear B0 B1 G0
  go_enter Yba.func9, Yba.ntmps9
  go_wp2_with fail
  clear c0 c1
  generalize ((w.alloc (Obj.cells #[Value.int IntKind.u64 xn, Value.int IntKind.i64 xs, Value.pointer none] 33)).alloc (Obj.cells #[Value.int IntKind.u64 yn, Value.int IntKind.i64 ys, Value.pointer none] 33)) = w1 at HB0 HB1 HG0 ⊢
  have B0 : BlkIs w1 w.heap.size #[Value.int IntKind.u64 xn, Value.int IntKind.i64 xs, Value.pointer none] 33 := HB0
  have B1 : BlkIs w1 (w.heap.size + 1) #[Value.int IntKind.u64 yn, Value.int IntKind.i64 ys, Value.pointer none] 33 := HB1
  have c0 : w1.cell? ⟨w.heap.size, 0, none⟩ = some (.int .u64 xn) := by rw [B0.cells]; rfl
  have c1 : w1.cell? ⟨w.heap.size, 1, none⟩ = some (.int .i64 xs) := by rw [B0.cells]; rfl
  have c2 : w1.cell? ⟨w.heap.size + 1, 0, none⟩ = some (.int .u64 yn) := by rw [B1.cells]; rfl
  have c3 : w1.cell? ⟨w.heap.size + 1, 1, none⟩ = some (.int .i64 ys) := by rw [B1.cells]; rfl
  clear B0 B1 HB0 HB1
  refine (sec_any _ _ _ _ _ x0 x1 c0 c1).mono ?_
  rintro e w2 ⟨rfl, rfl⟩
  go_wp2_with fail
  refine (sec_any _ _ _ _ _ y0 y1 c2 c3).mono ?_
  rintro e w2 ⟨rfl, rfl⟩
  rcases Int.lt_trichotomy xs ys with hlt | heq | hgt
  · have e1 : decide (xs < ys) = true := decide_eq_true hlt
    have hR : Hid (decide (x < y) = true) := show decide (x < y) = true by have h := HX.out; rw [h, e1]; rfl
    go_wp2_with fail
    go_ret
    exact ⟨by rw [hR.out]; rfl, HG0.out⟩
  · subst heq
    have e1 : decide (xs < xs) = false := decide_eq_false (by omega)
    have e2 : (xs == xs) = true := by simp
    have hR : Hid (decide (x < y) = decide (xn < yn)) := show decide (x < y) = decide (xn < yn) by have h := HX.out; rw [h, e1, e2]; simp
    go_wp2_with fail
    refine (nsec_any _ _ _ _ x0 x1 c0).mono ?_
    rintro e w2 ⟨rfl, rfl⟩
    go_wp2_with fail
    refine (nsec_any _ _ _ _ y0 y1 c2).mono ?_
    rintro e w2 ⟨rfl, rfl⟩
    go_wp2_with fail
    go_ret
    exact ⟨by rw [hR.out]; rfl, HG0.out⟩
  · have e1 : decide (xs < ys) = false := decide_eq_false (by omega)
    have e2 : (xs == ys) = false := beq_eq_false_iff_ne.2 (by omega)
    have hR : Hid (decide (x < y) = false) := show decide (x < y) = false by have h := HX.out; rw [h, e1, e2]; rfl
    go_wp2_with fail
    go_ret
    exact ⟨by rw [hR.out]; rfl, HG0.out⟩
end Go.Proofs.Ybulkzk
