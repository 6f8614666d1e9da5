import Derived.Test.YbulkxuDoorPlain
import Derived.Test.YbulkxuDoorW2
import Derived.Deep.RegionHeld3
namespace Go.Proofs.YbulkxuDoor
open Go.RowKit
set_option linter.all false

/-- The equivocator's seven cells. -/
def eqv (s : ByteArray) (n h : Nat) (id inp : Int) (q : Bool) (r : Int) : Array Value := #[.string s, .int .i64 n, .int .i64 h, .int .i64 id, .int .i64 inp, .bool q, .int .i64 r]

/-- The iterations that the equivocator has sent its messages of. -/
def reachedOf (w : World) (eb : Nat) : Int := match w.cell? ⟨eb, 6, none⟩ with
  | some (.int _ x) => x
  | _ => 0

theorem gb_undrew {w w' : World} {r : Option Nat} (h : w.drew.grownBy w' r) : w.grownBy w' r := ⟨h.os, h.tape, h.output, h.size, h.block⟩
theorem reachedOf_eq {w : World} {eb : Nat} {s : ByteArray} {n h : Nat} {id inp : Int} {q : Bool} {r : Int} (he : w.heap[eb]? = some (.cells (eqv s n h id inp q r) 63)) : reachedOf w eb = r := by
  unfold reachedOf; rw [cell_of_row w eb 6 _ _ _ he]; rfl
theorem eqv_set {w : World} {eb : Nat} {s : ByteArray} {n h : Nat} {id inp : Int} {q : Bool} {r r' : Int} (he : w.heap[eb]? = some (.cells (eqv s n h id inp q r) 63)) : (w.setCell ⟨eb, 6, none⟩ (.int .i64 r')).heap[eb]? = some (.cells (eqv s n h id inp q r') 63) :=
  heap_setCell_same w eb 6 _ 63 _ he
theorem bndq {j h i : Nat} (hj : j ≤ 1000) (hh : h ≤ 1000) (hi : i ≤ 5) : j * (5 * h) + i * h + h ≤ 10000000 := by
  have a1 : j * (5 * h) ≤ 1000 * (5 * 1000) := Nat.mul_le_mul hj (Nat.mul_le_mul_left 5 hh)
  have a2 : i * h ≤ 5 * 1000 := Nat.mul_le_mul hi hh
  omega

set_option maxRecDepth 100000 in
set_option maxHeartbeats 4000000 in
theorem reach_q (s : ByteArray) (n h : Nat) (id inp r k : Int) (eb : Nat) (w : World) (d : Nat) (hd : d ≤ 1000) (hh : h ≤ 1000) (hk : d = (k - r).toNat)
    (hr0 : -9223372036854775808 ≤ r) (hr1 : r + 1 ≤ 9223372036854775807) (hk0 : -9223372036854775808 ≤ k) (hk1 : k + 1 ≤ 9223372036854775807)
    (hE : w.heap[eb]? = some (.cells (eqv s n h id inp true r) 63)) :
    Calls Ybad.prog 10 #[.pointer (some ⟨eb, 0, none⟩), .int .i64 k] w fun e w' => ∃ v', e = .returned v' ∧ w'.ownsRow w.heap.size 83 14 v' (d * (5 * h)) (iters s n h id inp true r d) ∧ w.grownBy w' (some eb) ∧ w'.heap[eb]? = some (.cells (eqv s n h id inp true (r + d)) 63) := by
  have hrd : r + d + 1 ≤ 9223372036854775807 := by omega
  have HK : Hid (d = (k - r).toNat) := hk
  have HE : Hid (_ = _) := hE
  clear hk hE
  go_enter Ybad.func10, Ybad.ntmps10
  go_wp2_with fail
  go_loopw [5] (fun ov wr => ∃ j : Nat, j ≤ d ∧ wr.ownsRow w.heap.size 83 14 ov (j * (5 * h)) (iters s n h id inp true r j) ∧ w.grownBy wr (some eb) ∧ wr.heap[eb]? = some (.cells (eqv s n h id inp true (r + j)) 63)) (fun _ wr => d - (reachedOf wr eb - r).toNat)
  case atStart => 
    refine ⟨0, Nat.zero_le _, ?_, gb_refl _ _, by simpa using HE.out⟩
    simpa [iters] using World.ownsRow_nil _ _ _ _
  case round =>
    obtain ⟨j, hj, ho, hg, he⟩ := hrel
    have HO : Hid (wr.ownsRow _ _ _ _ _ _) := ho
    have HG : Hid (w.grownBy _ _) := hg
    have HEr : Hid (_ = _) := he
    have leb : eb < wr.heap.size := (Array.getElem?_eq_some_iff.1 he).1
    have ce : ∀ o, wr.cell? ⟨eb, o, none⟩ = (eqv s n h id inp true (r + j))[o]? := fun o => cell_of_row wr eb o _ _ _ he
    unfold eqv at ce
    clear ho hg he
    by_cases hlt : j < d
    · have hlt' : r + j < k := by have := HK.out; omega
      go_wp2_with fail
      have ROo : Hid (reachedOf wr eb = r + j) := reachedOf_eq HEr.out
      obtain ⟨wo, rfl⟩ : ∃ wo : World, wo = wr := ⟨_, rfl⟩
      go_loopw [5, 7] (fun ov kv wr => ∃ i : Nat, i ≤ 5 ∧ kv = .int .u8 ((4 : Int) + i) ∧ wr.ownsRow w.heap.size 83 14 ov (j * (5 * h) + i * h) (iters s n h id inp true r j ++ qTo s h inp (r + j + 1) i) ∧ w.grownBy wr (some eb) ∧ wr.heap[eb]? = some (.cells (eqv s n h id inp true (r + j)) 63)) (fun _ kv _ => 9 - (intOf kv).toNat)
      case atStart =>
        refine ⟨0, by omega, rfl, ?_, HG.out, HEr.out⟩
        simpa [qTo] using HO.out
      case round =>
        obtain ⟨i, hi, rfl, ho, hg, he⟩ := hrel
        clear HO HG HEr leb ce
        have HO : Hid (wr.ownsRow _ _ _ _ _ _) := ho
        have HG : Hid (w.grownBy _ _) := hg
        have HEr : Hid (_ = _) := he
        have leb : eb < wr.heap.size := (Array.getElem?_eq_some_iff.1 he).1
        have ce : ∀ o, wr.cell? ⟨eb, o, none⟩ = (eqv s n h id inp true (r + j))[o]? := fun o => cell_of_row wr eb o _ _ _ he
        unfold eqv at ce
        clear ho hg he
        by_cases hi5 : i < 5
        · have hi8 : (4 : Int) + i ≤ 8 := by omega
          go_wp2_with fail
          go_region_held3 (fun w' => ∀ o, w'.cell? ⟨eb, o, none⟩ = (#[.string s, .int .i64 n, .int .i64 h, .int .i64 id, .int .i64 inp, .bool true, .int .i64 (r + j)] : Array Value)[o]?) (first | exact ce | exact fun o => (World.cell?_alloc_past _ eb o leb).trans (ce o)) (fail)
          go_wp2_with (first
            | refine wpList_load_row rfl 49 (.tmp 8) rfl wr.heap.size rfl 49 _ _ _ (by exact heap_alloc_new wr _) Ybad.underlying49 rfl Ybad.isize49 ?_)
          have ce2 : ∀ (X Y : Obj) (o : Nat), ((wr.alloc X).alloc Y).cell? ⟨eb, o, none⟩ = (#[.string s, .int .i64 n, .int .i64 h, .int .i64 id, .int .i64 inp, .bool true, .int .i64 (r + j)] : Array Value)[o]? := fun X Y o => (World.cell?_alloc_past _ eb o (by simp; omega)).trans ((World.cell?_alloc_past _ eb o leb).trans (ce o))
          have c8 : ∀ (cs : Array Value) (Y : Obj) (o : Nat), ((wr.alloc (.cells cs 49)).alloc Y).cell? ⟨wr.heap.size, o, none⟩ = cs[o]? := fun cs Y o => cell_of_row _ _ o cs 49 _ (heap_alloc2_old _ _ _)
          have c9 : ∀ (X : Obj) (cs : Array Value) (o : Nat), ((wr.alloc X).alloc (.cells cs 49)).cell? ⟨wr.heap.size + 1, o, none⟩ = cs[o]? := fun X cs o => cell_of_row _ _ o cs 49 _ (heap_alloc2_new _ _ _)
          have s1 : ∀ (X Y : Obj), eb < ((wr.alloc X).alloc Y).heap.size := fun X Y => by simp; omega
          have s2 : ∀ (X Y : Obj), wr.heap.size < ((wr.alloc X).alloc Y).heap.size := fun X Y => by simp; omega
          have s3 : ∀ (X Y : Obj), wr.heap.size + 1 < ((wr.alloc X).alloc Y).heap.size := fun X Y => by simp
          have ne1 : some eb ≠ u5.ownBlock := fun e => by have := (HO.out.lt eb e.symm).1; have := (Array.getElem?_eq_some_iff.1 HE.out).1; omega
          have ne2 : some wr.heap.size ≠ u5.ownBlock := fun e => by have := (HO.out.lt _ e.symm).2; omega
          have ne3 : some (wr.heap.size + 1) ≠ u5.ownBlock := fun e => by have := (HO.out.lt _ e.symm).2; omega
          go_region_held3 (fun w' => (∀ o, w'.cell? ⟨eb, o, none⟩ = (#[.string s, .int .i64 n, .int .i64 h, .int .i64 id, .int .i64 inp, .bool true, .int .i64 (r + j)] : Array Value)[o]?) ∧ (∀ o, w'.cell? ⟨wr.heap.size, o, none⟩ = (#[.string s, .int .i64 (r + j + 1), .int .u8 (4 + i), .string ⟨#[]⟩, .int .u8 0, .string ⟨#[]⟩, .string ⟨#[]⟩, .int .u8 0, .slice none 0 0, .string ⟨#[]⟩, .int .u8 0, .string ⟨#[]⟩, .int .i64 (inp)] : Array Value)[o]?) ∧ (∀ o, w'.cell? ⟨wr.heap.size + 1, o, none⟩ = (#[.string s, .int .i64 (r + j + 1), .int .u8 (4 + i), .string ⟨#[]⟩, .int .u8 0, .string ⟨#[]⟩, .string ⟨#[]⟩, .int .u8 0, .slice none 0 0, .string ⟨#[]⟩, .int .u8 0, .string ⟨#[]⟩, .int .i64 (wrap64 (1 - inp))] : Array Value)[o]?))
            (first | exact ⟨fun o => ce2 _ _ o, fun o => c8 _ _ o, fun o => c9 _ _ o⟩ | exact ⟨fun o => (g1.cell_far _ (s1 _ _) ne1).trans (ce2 _ _ o), fun o => (g1.cell_far _ (s2 _ _) ne2).trans (c8 _ _ o), fun o => (g1.cell_far _ (s3 _ _) ne3).trans (c9 _ _ o)⟩)
            (first | (go_at_call 20; refine (toHalves_any (msg s (r + j + 1) (4 + i) nul 0 nul inp) (msg s (r + j + 1) (4 + i) nul 0 nul (wrap64 (1 - inp))) rfl rfl (msg_one _ _ _ _ _ _ _) (msg_one _ _ _ _ _ _ _) h u5 (j * (5 * h) + i * h) (iters s n h id inp true r j ++ qTo s h inp (r + j + 1) i) w.heap.size _ (by exact Nat.le_trans HG.out.size (by simp; omega)) (by exact (HO.out.alloc _).alloc _) (bndq (by omega) hh hi)).mono ?_; rintro e w1 ⟨v1, rfl, o1, g1, at1⟩))
          have G1 : w.grownBy w1 (some eb) := gb_trans (gb_none HG.out (gb_none (World.grownBy_alloc wr _ none) (World.grownBy_alloc _ _ none))) (gb_undrew (gb_undrew g1)) (fun i e hi => by have := (HO.out.lt i e).1; omega)
          have E1 : w1.heap[eb]? = some (.cells (eqv s n h id inp true (r + j)) 63) := (g1.block eb (s1 _ _) ne1).trans ((Below.heap_alloc _ _ _ (by simp; omega)).trans ((Below.heap_alloc _ _ _ leb).trans HEr.out))
          have O1 : w1.ownsRow w.heap.size 83 14 v1 (j * (5 * h) + (i + 1) * h) (iters s n h id inp true r j ++ qTo s h inp (r + j + 1) (i + 1)) := by
            rw [List.append_assoc] at o1
            have e : j * (5 * h) + i * h + h = j * (5 * h) + (i + 1) * h := by rw [Nat.add_mul]; omega
            rw [e] at o1
            exact o1
          clear ce ce2 c8 c9 s1 s2 s3 ne1 ne2 ne3 o1 g1 at1
          have hw : (4 : Int) + i + 1 < 256 := by omega
          go_wp2_with fail
          go_roundw
          case rel => exact ⟨i + 1, by omega, by go_num, O1, G1, E1⟩
          case measure => simp [intOf]; omega
        · obtain rfl : i = 5 := by omega
          have fz : wr.frozen? ⟨eb, 6, none⟩ = false := frozen_of_row _ _ _ _ _ HEr.out
          go_wp2_with fail
          refine wp_loop_rounds 1 ?_
          rw [rounds_succ]
          go_wp2_with fail
          refine ⟨⟨j + 1, by omega, ?_, gb_trans HG.out (gb_setCell _ _ _) (fun i e _ => e), ?_⟩, ?_⟩
          · have := ownsRow_setCell_below HO.out (a := ⟨eb, 6, none⟩) (Array.getElem?_eq_some_iff.1 HE.out).1 (.int .i64 (r + j + 1))
            have e : j * (5 * h) + 5 * h = (j + 1) * (5 * h) := by rw [Nat.add_mul]; omega
            rw [e] at this
            exact this
          · rw [show r + ((j + 1 : Nat) : Int) = r + j + 1 by omega]
            exact eqv_set HEr.out
          · rw [reachedOf_eq (eqv_set HEr.out), ROo.out]; omega
    · have hlt' : ¬ r + j < k := by have := HK.out; omega
      go_wp2_with fail
      go_ret
      obtain rfl : j = d := by omega
      exact ⟨_, rfl, HO.out, HG.out, HEr.out⟩
end Go.Proofs.YbulkxuDoor
