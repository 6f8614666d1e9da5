import Derived.Test.YbulkxuDoorPlain
import Derived.Test.YbulkxuDoorW2
import Derived.Test.YbulkxuDoorW6
namespace Go.Proofs.YbulkxuDoor
open Go.RowKit
set_option linter.all false

theorem gb_own {w wr w1 : World} {B : Nat} {e size : Nat} {v : Value} {n : Nat} {xs : List Value} (hg : w.grownBy wr none) (ho : wr.ownsRow w.heap.size e size v n xs) (g : wr.grownBy w1 v.ownBlock) : w.grownBy w1 none :=
  gb_trans hg g (fun i e hi => by have := (ho.lt i e).1; omega)

set_option maxRecDepth 100000 in
set_option maxHeartbeats 4000000 in
theorem model_q (s : ByteArray) (n h : Nat) (id inp r k : Int) (w : World) (d : Nat) (hd : d ≤ 1000) (hh : h ≤ 1000) (hk : d = (k - r).toNat)
    (hr0 : -9223372036854775808 ≤ r) (hr1 : r + 2 ≤ 9223372036854775807) (hk0 : -9223372036854775808 ≤ k) (hk1 : k + 2 ≤ 9223372036854775807) :
    Calls Ybad.prog 11 #[.string s, .int .i64 n, .int .i64 h, .int .i64 id, .int .i64 inp, .bool true, .int .i64 r, .int .i64 k] w fun e w' => ∃ v', e = .returned v' ∧ w'.ownsRow w.heap.size 83 14 v' (d * (5 * h)) (iters s n h id inp true r d) ∧ w.grownBy w' none := by
  have hrd : r + d + 2 ≤ 9223372036854775807 := by omega
  have HK : Hid (d = (k - r).toNat) := hk
  obtain ⟨i0, hi, hz0, hz1, hz2⟩ := info_parts Ybad.info83
  clear hk
  go_enter Ybad.func11, Ybad.ntmps11
  go_wp2_with fail
  go_loopw [17, 18] (fun ov iv wr => ∃ j : Nat, j ≤ d ∧ iv = .int .i64 (r + j + 1) ∧ wr.ownsRow w.heap.size 83 14 ov (j * (5 * h)) (iters s n h id inp true r j) ∧ w.grownBy wr none) (fun _ iv _ => (d + 1) - (intOf iv - r).toNat)
  case atStart => exact ⟨0, Nat.zero_le _, by simp, by simpa [iters] using World.ownsRow_nil _ _ _ _, gb_refl _ _⟩
  case round =>
    obtain ⟨j, hj, rfl, ho, hg⟩ := hrel
    have HO : Hid (wr.ownsRow _ _ _ _ _ _) := ho
    have HG : Hid (w.grownBy _ _) := hg
    clear ho hg
    by_cases hlt : j < d
    · have hlt' : r + j + 1 ≤ k := by have := HK.out; omega
      go_wp2_with fail
      obtain ⟨wo, rfl⟩ : ∃ wo : World, wo = wr := ⟨_, rfl⟩
      go_loopw [17, 19] (fun ov kv wr => ∃ i : Nat, i ≤ 5 ∧ kv = .int .u8 ((4 : Int) + i) ∧ wr.ownsRow w.heap.size 83 14 ov (j * (5 * h) + i * h) (iters s n h id inp true r j ++ qTo s h inp (r + j + 1) i) ∧ w.grownBy wr none) (fun _ kv _ => 9 - (intOf kv).toNat)
      case atStart => exact ⟨0, by omega, rfl, by simpa [qTo] using HO.out, HG.out⟩
      case round =>
        obtain ⟨i, hi5, rfl, ho, hg⟩ := hrel
        clear HO HG
        have HO : Hid (wr.ownsRow _ _ _ _ _ _) := ho
        have HG : Hid (w.grownBy _ _) := hg
        clear ho hg
        by_cases hi6 : i < 5
        · have hi8 : (4 : Int) + i ≤ 8 := by omega
          go_wp2_with fail
          obtain ⟨wp, rfl⟩ : ∃ wp : World, wp = wr := ⟨_, rfl⟩
          go_loopw [17, 20] (fun ov tv wr => ∃ m : Nat, m ≤ h ∧ tv = .int .i64 m ∧ wr.ownsRow w.heap.size 83 14 ov (j * (5 * h) + i * h + m) (iters s n h id inp true r j ++ qTo s h inp (r + j + 1) i ++ halves h (msg s (r + j + 1) (4 + i) nul 0 nul inp) (msg s (r + j + 1) (4 + i) nul 0 nul (wrap64 (1 - inp))) m) ∧ w.grownBy wr none) (fun _ tv _ => h - (intOf tv).toNat)
          case atStart => exact ⟨0, by omega, rfl, by simpa [halves] using HO.out, HG.out⟩
          case round =>
            obtain ⟨m, hm, rfl, ho, hg⟩ := hrel
            clear HO HG
            have HO : Hid (wr.ownsRow _ _ _ _ _ _) := ho
            have HG : Hid (w.grownBy _ _) := hg
            clear ho hg
            have hbd := bndq (j := j) (h := h) (i := i) (by omega) hh hi5
            have hBr : w.heap.size ≤ wr.heap.size := HG.out.size
            by_cases hmh : m < h
            · by_cases hhalf : (h + 1) / 2 ≤ m
              · have ht : (h : Int) ≤ 2 * m := by omega
                go_wp2_with (at_builtin; refine wpList_append_lies _ rfl _ _ _ rfl w.heap.size 83 i0 _ 14 176 Ybad.underlying64 hi hz0 hz1 hz2 rfl (by omega) u17 (j * (5 * h) + i * h + m) _ (by rfl) (by exact HO.out.alloc _) ⟨wr.heap.size, 0, none⟩ 1 1 (.int .i64 m :: msg s (r + j + 1) (4 + i) nul 0 nul (wrap64 (1 - inp))) (by rfl) (by rfl) (by exact World.news_of_block (heap_alloc_new _ _)) (by exact one_cons _ _ (msg_one _ _ _ _ _ _ _)) (by omega) (by unfold maxLen; omega) (by omega) (by exact hbase1 hBr) (wr.heap.size + 1) (by simp) ?_; intro g cap w1 hown1 hgrow hat1 hlt1)
                go_roundw
                case rel =>
                  refine ⟨m + 1, by omega, by go_num, ?_, gb_own (B := 0) (gb_none HG.out (World.grownBy_alloc _ _ _)) (HO.out.alloc _) hgrow⟩
                  have := hown1
                  rw [List.append_assoc] at this
                  simpa [halves, hhalf, Nat.add_assoc] using this
                case measure => simp [intOf]; omega
              · have ht : ¬ (h : Int) ≤ 2 * m := by omega
                go_wp2_with (at_builtin; refine wpList_append_lies _ rfl _ _ _ rfl w.heap.size 83 i0 _ 14 176 Ybad.underlying64 hi hz0 hz1 hz2 rfl (by omega) u17 (j * (5 * h) + i * h + m) _ (by rfl) (by exact HO.out.alloc _) ⟨wr.heap.size, 0, none⟩ 1 1 (.int .i64 m :: msg s (r + j + 1) (4 + i) nul 0 nul inp) (by rfl) (by rfl) (by exact World.news_of_block (heap_alloc_new _ _)) (by exact one_cons _ _ (msg_one _ _ _ _ _ _ _)) (by omega) (by unfold maxLen; omega) (by omega) (by exact hbase1 hBr) (wr.heap.size + 1) (by simp) ?_; intro g cap w1 hown1 hgrow hat1 hlt1)
                go_roundw
                case rel =>
                  refine ⟨m + 1, by omega, by go_num, ?_, gb_own (B := 0) (gb_none HG.out (World.grownBy_alloc _ _ _)) (HO.out.alloc _) hgrow⟩
                  have := hown1
                  rw [List.append_assoc] at this
                  simpa [halves, hhalf, Nat.add_assoc] using this
                case measure => simp [intOf]; omega
            · have hw : (4 : Int) + i + 1 < 256 := by omega
              go_wp2_with fail
              refine ⟨⟨i + 1, by omega, by go_num, ?_, HG.out⟩, by simp [intOf]; omega⟩
              obtain rfl : m = h := by omega
              have e : j * (5 * m) + i * m + m = j * (5 * m) + (i + 1) * m := by rw [Nat.add_mul i 1]; omega
              have := HO.out
              rw [e] at this
              simpa only [qTo, List.append_assoc] using this
        · obtain rfl : i = 5 := by omega
          go_wp2_with fail
          refine ⟨⟨j + 1, by omega, by go_num, ?_, HG.out⟩, by simp [intOf]; omega⟩
          have e : j * (5 * h) + 5 * h = (j + 1) * (5 * h) := by rw [Nat.add_mul]; omega
          have := HO.out
          rw [e] at this
          exact this
    · have hlt' : ¬ r + j + 1 ≤ k := by have := HK.out; omega
      go_wp2_with fail
      go_ret
      obtain rfl : j = d := by omega
      exact ⟨_, rfl, HO.out, HG.out⟩
end Go.Proofs.YbulkxuDoor
