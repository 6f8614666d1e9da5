import Derived.Test.YbulkzkKit
import Derived.Deep.QuietTactic
import Derived.BigQuiet
import Derived.Lib.Builder
namespace Go.Proofs.Ybulkzk
open Go.RowKit
set_option linter.all false

theorem Yba.info25 : (Yba.prog.info? 25).map (fun i => (i.zero, i.size, i.bytes)) = some (some (.pointer none), 1, 8) := by kernel_rfl
def ptrs (ebs : List Nat) (N : Nat) : List Value := ebs.map (fun b => Value.pointer (some ⟨b, 0, none⟩)) ++ List.replicate (N - ebs.length) (.pointer none)
theorem ptrs_set (ebs : List Nat) (N b : Nat) (h : ebs.length < N) : (ptrs ebs N).set ebs.length (.pointer (some ⟨b, 0, none⟩)) = ptrs (ebs ++ [b]) N := by
  unfold ptrs
  rw [List.set_append_right _ _ (by simp)]
  simp only [List.length_map, Nat.sub_self, List.map_append, List.map_cons, List.map_nil, List.length_append, List.length_singleton, List.append_assoc]
  congr 1
  rw [show N - ebs.length = (N - (ebs.length + 1)) + 1 by omega, List.replicate_succ]
  rfl
theorem ptrs_length (ebs : List Nat) (N : Nat) (h : ebs.length ≤ N) : (ptrs ebs N).length = N := by simp [ptrs]; omega
theorem made_ptrs (N : Nat) : madeCells #[Value.pointer none] N = (ptrs [] N).toArray := by
  apply Array.ext
  · simp [madeCells, ptrs]
  · intro i h1 h2
    simp [madeCells, ptrs, Nat.mod_one]

/-- An entry's thirteen cells: its id and its index; all else zero. -/
def ent (id idx : Int) : Array Value := #[.int .u64 id, .string ⟨#[]⟩, .pointer none, .nilFunc, .int .i64 0, .int .u64 0, .int .i64 0, .pointer none, .int .i64 idx, .int .i64 0, .int .u64 0, .int .i64 0, .pointer none]

set_option maxRecDepth 100000 in
set_option maxHeartbeats 2000000 in
theorem pop_any (n qb vb eb : Nat) (arr : Array Value) (id idx : Int) (w : World) (hn : 0 < n) (hn2 : n ≤ 1024) (cap : Nat) (hcap : n ≤ cap) (hv : BlkIs w vb #[.slice (some ⟨qb, 0, none⟩) n cap] 24)
    (hq : BlkIs w qb arr 25) (hs : arr.size = cap) (hl : arr[n - 1]? = some (.pointer (some ⟨eb, 0, none⟩))) (he : BlkIs w eb (ent id idx) 35) (d1 : qb ≠ vb) (d2 : eb ≠ vb) (d3 : eb ≠ qb) :
    Calls Yba.prog 5 #[.pointer (some ⟨vb, 0, none⟩)] w fun e w' => e = .returned (.iface 25 (.pointer (some ⟨eb, 0, none⟩))) ∧ w' = ((w.setCell ⟨qb, n - 1, none⟩ (.pointer none)).setCell ⟨eb, 8, none⟩ (.int .i64 (-1))).setCell ⟨vb, 0, none⟩ (.slice (some ⟨qb, 0, none⟩) (n - 1) cap) := by
  have c1 := hv.cells
  have c2 : w.cell? ⟨qb, n - 1, none⟩ = some (.pointer (some ⟨eb, 0, none⟩)) := by rw [hq.cells]; exact hl
  have e1 : ((n : Int) - 1) = ((n - 1 : Nat) : Int) := by omega
  have f1 : w.frozen? ⟨qb, n - 1, none⟩ = false := frozen_of_row _ _ _ _ _ hq
  have c3 : w.cell? ⟨eb, 8, none⟩ = some (.int .i64 idx) := by rw [he.cells]; rfl
  have f2 : w.frozen? ⟨eb, 8, none⟩ = false := frozen_of_row _ _ _ _ _ he
  have f3 : w.frozen? ⟨vb, 0, none⟩ = false := frozen_of_row _ _ _ _ _ hv
  have q0 : (0 : Int) ≤ ((n - 1 : Nat) : Int) := Int.natCast_nonneg _
  have q1 : ((n - 1 : Nat) : Int) ≤ (cap : Int) := by omega
  clear hv hq hs hl he
  go_enter Yba.func5, Yba.ntmps5
  go_wp2_with fail
  go_ret
  exact ⟨rfl, rfl⟩

/-- The entries laid so far. -/
def Laid (w wr : World) (pb qb n : Nat) (zs : List Int) (ebs : List Nat) : Prop :=
  BlkIs wr pb (ptrs ebs n).toArray 25 ∧ BlkIs wr qb (ptrs ebs n).toArray 25 ∧ (∀ t, t < ebs.length → BlkIs wr (ebs.getD t 0) (ent (zs.getD t 0) t) 35 ∧ qb < ebs.getD t 0 ∧ ∀ s, s < t → ebs.getD s 0 < ebs.getD t 0) ∧ w.grownBy wr none

theorem ptrs_at (ebs : List Nat) (N t : Nat) (h : t < ebs.length) : (ptrs ebs N)[t]? = some (.pointer (some ⟨ebs.getD t 0, 0, none⟩)) := by
  simp [ptrs, List.getElem?_append_left, h, List.getD]

theorem neq_same (a : Addr) (w : World) : (binOp .neq 25 (.pointer (some a)) (.pointer (some a))).run Yba.prog w = .ok (.bool false) w := by
  obtain ⟨j, hj⟩ : ∃ j, Yba.prog.info? 35 = some j := by
    have : (Yba.prog.info? 35).isSome = true := by kernel_rfl
    exact Option.isSome_iff_exists.1 this
  exact Lib.run_neq_ptr_same w a Yba.underlying25 hj
theorem ta (a : Addr) (w : World) : (Instr.typeAssert (.iface 25 (.pointer (some a))) 20 25 true).run Yba.prog w = .ok (.tuple #[.pointer (some a), .bool true]) w := by kernel_rfl
theorem below_dn (B : Nat) (w : World) (k : Nat) : Below B w (w.drewN k) := by
  have hh : ∀ k, (w.drewN k).heap = w.heap ∧ (w.drewN k).os = w.os ∧ (w.drewN k).tape = w.tape ∧ (w.drewN k).output = w.output := by
    intro k
    induction k with
    | zero => exact ⟨rfl, rfl, rfl, rfl⟩
    | succ k ih => simp [World.drewN, World.drew] at ih ⊢
  obtain ⟨h1, h2, h3, h4⟩ := hh k
  exact ⟨h2, h3, h4, by rw [h1]; exact Nat.le_refl _, fun i _ => by rw [h1]⟩
theorem laid_next {w wr : World} {pb qb n : Nat} {zs : List Int} {ebs : List Nat} (h : Laid w wr pb qb n zs ebs) (hj : ebs.length < n) (h1 : w.heap.size ≤ pb) (h2 : pb < qb) :
    Laid w (((wr.setCell ⟨pb, ebs.length, none⟩ (.pointer (some ⟨wr.heap.size, 0, none⟩))).setCell ⟨qb, ebs.length, none⟩ (.pointer (some ⟨wr.heap.size, 0, none⟩))).alloc (.cells (ent (zs.getD ebs.length 0) ebs.length) 35)) pb qb n zs (ebs ++ [wr.heap.size]) := by
  obtain ⟨hp, hq, he, hg⟩ := h
  have hs : ((wr.setCell ⟨pb, ebs.length, none⟩ (.pointer (some ⟨wr.heap.size, 0, none⟩))).setCell ⟨qb, ebs.length, none⟩ (.pointer (some ⟨wr.heap.size, 0, none⟩))).heap.size = wr.heap.size := by simp [World.setCell]
  have lq := hq.lt
  refine ⟨?_, ?_, ?_, ?_⟩
  · have := ((hp.set (j := ebs.length) (.pointer (some ⟨wr.heap.size, 0, none⟩))).setOther (c := qb) (j := ebs.length) (.pointer (some ⟨wr.heap.size, 0, none⟩)) (by omega)).alloc (.cells (ent (zs.getD ebs.length 0) ebs.length) 35)
    rw [List.setIfInBounds_toArray, ptrs_set ebs n _ hj] at this
    exact this
  · have := ((hq.setOther (c := pb) (j := ebs.length) (.pointer (some ⟨wr.heap.size, 0, none⟩)) (by omega)).set (j := ebs.length) (.pointer (some ⟨wr.heap.size, 0, none⟩))).alloc (.cells (ent (zs.getD ebs.length 0) ebs.length) 35)
    rw [List.setIfInBounds_toArray, ptrs_set ebs n _ hj] at this
    exact this
  · intro t ht
    rw [List.length_append, List.length_singleton] at ht
    by_cases e : t < ebs.length
    · have g1 : ∀ s, s < ebs.length → (ebs ++ [wr.heap.size]).getD s 0 = ebs.getD s 0 := fun s hs => by simp [List.getD, List.getElem?_append_left hs]
      obtain ⟨a1, a2, a3⟩ := he t e
      rw [g1 t e]
      refine ⟨((a1.setOther _ (by omega)).setOther _ (by omega)).alloc _, a2, fun s hs => ?_⟩
      rw [g1 s (by omega)]; exact a3 s hs
    · obtain rfl : t = ebs.length := by omega
      have e1 : (ebs ++ [wr.heap.size]).getD ebs.length 0 = wr.heap.size := by simp [List.getD]
      rw [e1]
      refine ⟨BlkIs.newAt hs _ _, by omega, fun s hs' => ?_⟩
      have g1 : (ebs ++ [wr.heap.size]).getD s 0 = ebs.getD s 0 := by simp [List.getD, List.getElem?_append_left hs']
      rw [g1]; exact (he s hs').1.lt
  · exact gb_none (gb_trans (gb_trans hg (gb_setCell wr ⟨pb, ebs.length, none⟩ _) (fun i e hi => by have e1 : pb = i := Option.some.inj e; omega)) (gb_setCell _ ⟨qb, ebs.length, none⟩ _) (fun i e hi => by have e1 : qb = i := Option.some.inj e; omega)) (World.grownBy_alloc _ _ _)

set_option maxRecDepth 100000 in
set_option maxHeartbeats 4000000 in
theorem law_pos (ib io n cap : Nat) (zs : List Int) (w : World) (hn : 0 < n) (hn2 : n ≤ 1024) (hcap : n ≤ cap) (hib : ib < w.heap.size) (hz : n ≤ zs.length)
    (hin : ∀ i, i < zs.length → w.cell? ⟨ib, io + i, none⟩ = some (.int .u64 (zs.getD i 0))) :
    Calls Yba.prog 3 #[.slice (some ⟨ib, io, none⟩) n cap] w fun e w' => e = .returned (.bool true) ∧ Below w.heap.size w w' := by
  have hmk1 := fun wx => run_make_row' (P := Yba.prog) 23 25 (.pointer none) 8 Yba.underlying23 Yba.info25 rfl .i64 .i64 n (by omega) (by omega) wx
  have hmk2 := fun wx => run_make_row' (P := Yba.prog) 24 25 (.pointer none) 8 Yba.underlying24 Yba.info25 rfl .i64 .i64 n (by omega) (by omega) wx
  have HIN : Hid (∀ i, i < zs.length → _) := hin
  have hn0 : ((n : Int) == 0) = false := beq_eq_false_iff_ne.2 (by omega)
  clear hin
  go_enter Yba.func3, Yba.ntmps3
  go_wp2_with fail
  clear hmk1 hmk2
  go_loopw [6] (fun iv wr => ∃ ebs : List Nat, ebs.length ≤ n ∧ iv = .int .i64 ebs.length ∧ Laid w wr w.heap.size (w.heap.size + 1) n zs ebs) (fun iv _ => n - (intOf iv).toNat)
  case atStart =>
    refine ⟨[], by simp, rfl, ?_, ?_, fun t ht => by simp at ht, gb_none (World.grownBy_alloc _ _ _) (World.grownBy_alloc _ _ _)⟩
    · rw [made_ptrs]; exact (BlkIs.new w _ _).alloc _
    · rw [made_ptrs]; exact BlkIs.newAt (by simp) _ _
  case round =>
    obtain ⟨ebs, hle, rfl, hL⟩ := hrel
    obtain ⟨hpb, hqb, hes, hgr⟩ := hL
    obtain ⟨j, hj⟩ : ∃ j, j = ebs.length := ⟨_, rfl⟩
    rw [← hj]
    have HJ : Hid (j = ebs.length) := hj
    have HES : Hid (∀ t, t < ebs.length → _) := hes
    have HLE : Hid (ebs.length ≤ n) := hle
    have HGR : Hid (w.grownBy wr none) := hgr
    clear hes
    by_cases hlt : j < n
    · have cid : wr.cell? ⟨ib, io + j, none⟩ = some (.int .u64 (zs.getD j 0)) := (hgr.cell_far _ hib (by simp)).trans (HIN.out j (by omega))
      have c1 : wr.cell? ⟨w.heap.size, j, none⟩ = some (cellAt wr w.heap.size j) := cellAt_of (by rw [hpb.cells j]; simp; rw [ptrs_length _ _ hle]; exact hlt)
      have f1 : wr.frozen? ⟨w.heap.size, j, none⟩ = false := frozen_of_row _ _ _ _ _ hpb
      have c2 : wr.cell? ⟨w.heap.size + 1, j, none⟩ = some (cellAt wr (w.heap.size + 1) j) := cellAt_of (by rw [hqb.cells j]; simp; rw [ptrs_length _ _ hle]; exact hlt)
      have f2 : wr.frozen? ⟨w.heap.size + 1, j, none⟩ = false := frozen_of_row _ _ _ _ _ hqb
      have q1 : (j : Int) < (n : Int) := by omega
      have l2 : w.heap.size + 1 < wr.heap.size := hqb.lt
      have l1 : w.heap.size < wr.heap.size := by omega
      have L1 := laid_next (w := w) (wr := wr) (n := n) (zs := zs) ⟨hpb, hqb, HES.out, HGR.out⟩ (by rw [← HJ.out]; exact hlt) (Nat.le_refl _) (Nat.lt_succ_self _)
      rw [← HJ.out] at L1
      have HL1 : Hid (Laid _ _ _ _ _ _ _) := L1
      clear hj hle hgr L1
      go_wp2_with fail
      refine ⟨⟨ebs ++ [wr.heap.size], ?_, ?_, HL1.out⟩, by simp [intOf]; omega⟩
      · rw [List.length_append, List.length_singleton, ← HJ.out]; omega
      · rw [List.length_append, List.length_singleton, ← HJ.out]; go_num
    · have e : ebs.length = n := by omega
      obtain ⟨eb, heb⟩ : ∃ eb, eb = ebs.getD (n - 1) 0 := ⟨_, rfl⟩
      obtain ⟨E1, E2, E3⟩ := HES.out (n - 1) (by omega)
      rw [← heb] at E1 E2 E3
      have hat : (ptrs ebs n).toArray[n - 1]? = some (.pointer (some ⟨eb, 0, none⟩)) := by rw [heb]; simpa using ptrs_at ebs n (n - 1) (by omega)
      have lq := hqb.lt
      have lE := E1.lt
      have HEB : Hid (eb = _) := heb
      clear hj heb
      go_wp2_with fail
      refine (pop_any n (w.heap.size + 1) wr.heap.size eb (ptrs ebs n).toArray (zs.getD (n - 1) 0) ((n - 1 : Nat) : Int) _ hn hn2 n (Nat.le_refl _) (BlkIs.new wr _ _) (hqb.alloc _) (by simp [ptrs_length _ _ hle]) hat (E1.alloc _) (by omega) (by omega) (by omega)).mono ?_
      rintro e w2 ⟨rfl, hw2⟩
      have P2 : BlkIs w2 w.heap.size (ptrs ebs n).toArray 25 := by rw [hw2]; exact (((hpb.alloc _).setOther _ (by omega)).setOther _ (by omega)).setOther _ (by omega)
      have Q2 : BlkIs w2 (w.heap.size + 1) ((ptrs ebs n).toArray.setIfInBounds (n - 1) (.pointer none)) 25 := by rw [hw2]; exact (((hqb.alloc _).set _).setOther _ (by omega)).setOther _ (by omega)
      have V2 : BlkIs w2 wr.heap.size #[.slice (some ⟨w.heap.size + 1, 0, none⟩) (n - 1) n] 24 := by rw [hw2]; exact ((((BlkIs.new wr _ _)).setOther _ (by omega)).setOther _ (by omega)).set _
      have E2' : BlkIs w2 eb (ent (zs.getD (n - 1) 0) (-1)) 35 := by rw [hw2]; exact (((E1.alloc _).setOther _ (by omega)).set _).setOther _ (by omega)
      have O2 : ∀ t, t < n - 1 → BlkIs w2 (ebs.getD t 0) (ent (zs.getD t 0) t) 35 := by
        intro t ht
        obtain ⟨a1, a2, a3⟩ := HES.out t (by omega)
        have a4 := E3 t ht
        have a5 := a1.lt
        rw [hw2]; exact (((a1.alloc _).setOther _ (by omega)).setOther _ (by omega)).setOther _ (by omega)
      have G2 : Below w.heap.size w w2 := by
        rw [hw2]
        exact ((((gb_below hgr (Nat.le_refl _) (fun k e => by cases e)).alloc (by omega) _).setCell (by simp) _).setCell (by simp; omega) _).setCell (by simp; omega) _
      clear hw2 hpb hqb E1
      have hne := neq_same
      have hta := fun (a : Addr) (wx : World) => ta a wx
      have cids := fun (i : Nat) (hi : i < n) => (G2.cell (p := ⟨ib, io + i, none⟩) hib).trans (HIN.out i (by omega))
      have HO2 : Hid (∀ t, t < n - 1 → _) := O2
      clear O2
      have cl : w2.cell? ⟨w.heap.size, n - 1, none⟩ = some (.pointer (some ⟨eb, 0, none⟩)) := by rw [P2.cells]; exact hat
      have ce := E2'.cells
      unfold ent at ce
      have cz := cids (n - 1) (by omega)
      have HC : Hid (∀ i : Nat, i < n → _) := cids
      have e1 : ((n : Int) - 1) = ((n - 1 : Nat) : Int) := by omega
      have q0 : (0 : Int) ≤ ((n - 1 : Nat) : Int) := Int.natCast_nonneg _
      have q1 : ((n - 1 : Nat) : Int) < (n : Int) := by omega
      clear cids
      go_wp2_with fail
      go_quiet (fail)
      clear cl ce cz hta
      have cv := V2.cells
      have cq : w2.cell? ⟨w.heap.size + 1, n - 1, none⟩ = some (.pointer none) := by
        have hl : n - 1 < (ptrs ebs n).length := by rw [ptrs_length _ _ hle]; omega
        rw [Q2.cells]; simp [hl]
      go_wp2_with fail
      clear cv cq
      go_loopw [12] (fun iv wx => ∃ i : Nat, i ≤ n - 1 ∧ iv = .int .i64 i ∧ ∃ nq, wx = w2.drewN nq) (fun iv _ => n - (intOf iv).toNat)
      case atStart => exact ⟨0, Nat.zero_le _, rfl, _, rfl⟩
      case round =>
        obtain ⟨i, hi, rfl, nq, rfl⟩ := hrel
        by_cases hin1 : i < n - 1
        · have lt : i < ebs.length := by omega
          have ci := HC.out i (by omega)
          obtain ⟨ei, hei⟩ : ∃ ei, ei = ebs.getD i 0 := ⟨_, rfl⟩
          have co := (HO2.out i hin1).cells
          rw [← hei] at co
          unfold ent at co
          have cp : w2.cell? ⟨w.heap.size, i, none⟩ = some (.pointer (some ⟨ei, 0, none⟩)) := by rw [P2.cells, hei]; simpa using ptrs_at ebs n i lt
          have cqi : w2.cell? ⟨w.heap.size + 1, i, none⟩ = some (.pointer (some ⟨ei, 0, none⟩)) := by
            rw [Q2.cells, hei, Array.getElem?_setIfInBounds, if_neg (by omega)]; simpa using ptrs_at ebs n i lt
          have cv := V2.cells
          have r0 : (0 : Int) ≤ (i : Int) := Int.natCast_nonneg _
          have r1 : (i : Int) < ((n - 1 : Nat) : Int) := by omega
          clear hei
          go_wp2_with fail
          go_quiet (fail)
          go_wp2_with fail
          exact ⟨⟨i + 1, by omega, by go_num, _, rfl⟩, by simp [intOf]; omega⟩
        · go_wp2_with fail
          go_ret
          exact ⟨rfl, G2.trans (below_dn _ _ _)⟩
end Go.Proofs.Ybulkzk
