import Derived.Test.YbulkzkH2
import Derived.Deep.RegionHeld3
namespace Go.Proofs.Ybulkzk
open Go.RowKit
set_option linter.all false

/-- An entry's thirteen cells: its id, its next run, its index; all else zero. -/
def entc (id z idx : Int) : Array Value := #[.int .u64 id, .string ⟨#[]⟩, .pointer none, .nilFunc, .int .i64 0, .int .u64 (z % 1000000000), .int .i64 (z / 1000000000), .pointer none, .int .i64 idx, .int .i64 0, .int .u64 0, .int .i64 0, .pointer none]

theorem len_any (a : Option Addr) (n cap : Nat) (w : World) :
    Calls Yba.prog 33 #[.slice a n cap] w fun e w' => e = .returned (.int .i64 n) ∧ w' = w := by
  go_enter Yba.func33, Yba.ntmps33
  go_wp2
  go_ret
  exact ⟨rfl, rfl⟩

theorem cell_lt {w : World} {a : Addr} {v : Value} (h : w.cell? a = some v) : a.block < w.heap.size := by
  rcases Nat.lt_or_ge a.block w.heap.size with k | k
  · exact k
  · simp [World.cell?, Array.getElem?_eq_none k] at h
theorem gb_cell {w w' : World} {r : Option Nat} {a : Addr} {v : Value} (g : w.grownBy w' r) (hr : some a.block ≠ r) (h : w.cell? a = some v) : w'.cell? a = some v :=
  (World.cell?_of_block (g.block a.block (cell_lt h) hr)).trans h
/-- What Less reads. -/
def Two (qb i j ei ej : Nat) (x y : Int) (w : World) : Prop :=
  w.cell? ⟨qb, i, none⟩ = some (.pointer (some ⟨ei, 0, none⟩)) ∧ w.cell? ⟨qb, j, none⟩ = some (.pointer (some ⟨ej, 0, none⟩)) ∧
  w.cell? ⟨ei, 5, none⟩ = some (.int .u64 (x % 1000000000)) ∧ w.cell? ⟨ei, 6, none⟩ = some (.int .i64 (x / 1000000000)) ∧ w.cell? ⟨ei, 7, none⟩ = some (.pointer none) ∧
  w.cell? ⟨ej, 5, none⟩ = some (.int .u64 (y % 1000000000)) ∧ w.cell? ⟨ej, 6, none⟩ = some (.int .i64 (y / 1000000000)) ∧ w.cell? ⟨ej, 7, none⟩ = some (.pointer none)
theorem Two.gb {qb i j ei ej : Nat} {x y : Int} {w w' : World} (h : Two qb i j ei ej x y w) (g : w.grownBy w' none) : Two qb i j ei ej x y w' := by
  obtain ⟨a, b, c, d, e, f, p, q⟩ := h
  exact ⟨gb_cell g (by simp) a, gb_cell g (by simp) b, gb_cell g (by simp) c, gb_cell g (by simp) d, gb_cell g (by simp) e, gb_cell g (by simp) f, gb_cell g (by simp) p, gb_cell g (by simp) q⟩

set_option maxRecDepth 100000 in
set_option maxHeartbeats 2000000 in
theorem less_any (qb n cap i j ei ej : Nat) (x y : Int) (w : World) (hi : i < n) (hj : j < n) (hn : n ≤ 1024) (h2 : Two qb i j ei ej x y w) :
    Calls Yba.prog 34 #[.slice (some ⟨qb, 0, none⟩) n cap, .int .i64 i, .int .i64 j] w fun e w' => e = .returned (.bool (decide (x < y))) ∧ w.grownBy w' none := by
  have H2 : Hid (Two _ _ _ _ _ _ _ w) := h2
  clear h2
  go_enter Yba.func34, Yba.ntmps34
  go_wp2_with fail
  go_region_held3 (fun w' => w'.cell? ⟨qb, i, none⟩ = some (.pointer (some ⟨ei, 0, none⟩)) ∧ w'.cell? ⟨qb, j, none⟩ = some (.pointer (some ⟨ej, 0, none⟩)) ∧
      w'.cell? ⟨ei, 5, none⟩ = some (.int .u64 (x % 1000000000)) ∧ w'.cell? ⟨ei, 6, none⟩ = some (.int .i64 (x / 1000000000)) ∧ w'.cell? ⟨ei, 7, none⟩ = some (.pointer none) ∧
      w'.cell? ⟨ej, 5, none⟩ = some (.int .u64 (y % 1000000000)) ∧ w'.cell? ⟨ej, 6, none⟩ = some (.int .i64 (y / 1000000000)) ∧ w'.cell? ⟨ej, 7, none⟩ = some (.pointer none))
    (first | exact H2.out | exact Two.gb H2.out (gb_undrew g1))
    (first | (go_at_call 9; refine (before_any x y _).mono ?_; rintro e w1 ⟨rfl, g1⟩))
  go_wp2_with fail
  go_ret
  exact ⟨rfl, gb_undrew g1⟩

/-- What was there is as it was, but for the blocks of S. -/
def Chg (S : Nat → Prop) (a b : World) : Prop := b.os = a.os ∧ b.tape = a.tape ∧ b.output = a.output ∧ a.heap.size ≤ b.heap.size ∧ ∀ k, k < a.heap.size → ¬ S k → b.heap[k]? = a.heap[k]?
theorem Chg.refl (S : Nat → Prop) (a : World) : Chg S a a := ⟨rfl, rfl, rfl, Nat.le_refl _, fun _ _ _ => rfl⟩
theorem Chg.trans {S : Nat → Prop} {a b c : World} (h : Chg S a b) (g : Chg S b c) : Chg S a c :=
  ⟨g.1.trans h.1, g.2.1.trans h.2.1, g.2.2.1.trans h.2.2.1, Nat.le_trans h.2.2.2.1 g.2.2.2.1, fun k hk hs => (g.2.2.2.2 k (Nat.lt_of_lt_of_le hk h.2.2.2.1) hs).trans (h.2.2.2.2 k hk hs)⟩
theorem Chg.of {S : Nat → Prop} {a b : World} {r : Option Nat} (g : a.grownBy b r) (hr : ∀ k, r = some k → S k) : Chg S a b :=
  ⟨g.os, g.tape, g.output, g.size, fun k hk hs => g.block k hk (fun e => hs (hr k e.symm))⟩
theorem Chg.none {S : Nat → Prop} {a b : World} (g : a.grownBy b Option.none) : Chg S a b := Chg.of g (fun _ e => by cases e)
theorem Chg.weak {S T : Nat → Prop} {a b : World} (h : Chg S a b) (hst : ∀ k, k < a.heap.size → S k → T k) : Chg T a b :=
  ⟨h.1, h.2.1, h.2.2.1, h.2.2.2.1, fun k hk ht => h.2.2.2.2 k hk (fun e => ht (hst k hk e))⟩
theorem Chg.set {S : Nat → Prop} {a b : World} (h : Chg S a b) (p : Addr) (v : Value) (hs : S p.block) : Chg S a (b.setCell p v) :=
  h.trans (Chg.of (gb_setCell b p v) (fun k e => by cases e; exact hs))
theorem Chg.drew {S : Nat → Prop} {a b : World} (h : Chg S a b) : Chg S a b.drew := h.trans (Chg.none (gb_drew b _))
theorem Chg.below {S : Nat → Prop} {a b : World} (h : Chg S a b) {B : Nat} (hB : B ≤ a.heap.size) (hs : ∀ k, S k → B ≤ k) : Below B a b :=
  ⟨h.1, h.2.1, h.2.2.1, h.2.2.2.1, fun k hk => h.2.2.2.2 k (by omega) (fun e => by have := hs k e; omega)⟩
theorem BlkIs.chg {S : Nat → Prop} {w w' : World} {b : Nat} {cs : Array Value} {t : TypeId} (h : BlkIs w b cs t) (g : Chg S w w') (ne : ¬ S b) : BlkIs w' b cs t := (g.2.2.2.2 b h.lt ne).trans h

set_option maxRecDepth 100000 in
set_option maxHeartbeats 2000000 in
theorem swap_ne (qb n cap i j ei ej : Nat) (arr : Array Value) (idi idj zi zj xi xj : Int) (w : World) (hi : i < n) (hj : j < n) (hn : n ≤ 1024) (hij : i ≠ j) (h1 : qb ≠ ei) (h2 : qb ≠ ej) (h3 : ei ≠ ej)
    (hq : BlkIs w qb arr 25) (ai : arr[i]? = some (.pointer (some ⟨ei, 0, none⟩))) (aj : arr[j]? = some (.pointer (some ⟨ej, 0, none⟩)))
    (hei : BlkIs w ei (entc idi zi xi) 35) (hej : BlkIs w ej (entc idj zj xj) 35) :
    Calls Yba.prog 35 #[.slice (some ⟨qb, 0, none⟩) n cap, .int .i64 i, .int .i64 j] w fun e w' => e = .returned (.tuple #[]) ∧
      Chg (fun k => k = qb ∨ k = ei ∨ k = ej) w w' ∧ BlkIs w' qb ((arr.setIfInBounds i (.pointer (some ⟨ej, 0, none⟩))).setIfInBounds j (.pointer (some ⟨ei, 0, none⟩))) 25 ∧
      BlkIs w' ei (entc idi zi j) 35 ∧ BlkIs w' ej (entc idj zj i) 35 := by
  have hji : j ≠ i := fun e => hij e.symm
  have ci : w.cell? ⟨qb, i, none⟩ = some (.pointer (some ⟨ei, 0, none⟩)) := by rw [hq.cells]; exact ai
  have cj : w.cell? ⟨qb, j, none⟩ = some (.pointer (some ⟨ej, 0, none⟩)) := by rw [hq.cells]; exact aj
  have fi : w.frozen? ⟨qb, i, none⟩ = false := frozen_of_row _ _ _ _ _ hq
  have fj : w.frozen? ⟨qb, j, none⟩ = false := frozen_of_row _ _ _ _ _ hq
  have ki : w.cell? ⟨ei, 8, none⟩ = some (.int .i64 xi) := by rw [hei.cells]; rfl
  have kj : w.cell? ⟨ej, 8, none⟩ = some (.int .i64 xj) := by rw [hej.cells]; rfl
  have gi : w.frozen? ⟨ei, 8, none⟩ = false := frozen_of_row _ _ _ _ _ hei
  have gj : w.frozen? ⟨ej, 8, none⟩ = false := frozen_of_row _ _ _ _ _ hej
  have HQ : Hid (BlkIs _ _ _ _) := hq
  have HI : Hid (BlkIs _ _ _ _) := hei
  have HJ : Hid (BlkIs _ _ _ _) := hej
  clear hq hei hej ai aj
  go_enter Yba.func35, Yba.ntmps35
  go_wp2_with fail
  go_region
  go_wp2_with fail
  go_region
  go_wp2_with fail
  refine bodyPost_end (results_none rfl _ _ _) rfl ⟨rfl, ?_, ?_, ?_, ?_⟩
  · exact (((((Chg.refl _ w).set _ _ (.inl rfl)).set _ _ (.inl rfl)).set _ _ (.inr (.inr rfl))).set _ _ (.inr (.inl rfl))).drew.drew
  · exact ((((HQ.out).set _).set _).setOther _ h2).setOther _ h1
  · exact ((((HI.out).setOther _ h1.symm).setOther _ h1.symm).setOther _ h3).set (j := 8) _
  · exact ((((HJ.out).setOther _ h2.symm).setOther _ h2.symm).set (j := 8) _).setOther _ h3.symm
end Go.Proofs.Ybulkzk
