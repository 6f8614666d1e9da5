import Derived.Test.YbulkzkL2
namespace Go.Proofs.Ybulkzk
open Go.RowKit
set_option linter.all false

set_option maxRecDepth 100000 in
set_option maxHeartbeats 4000000 in
theorem gb_dn (w : World) (k : Nat) : w.grownBy (w.drewN k) none := by
  have hh : ∀ k, (w.drewN k).heap = w.heap ∧ (w.drewN k).os = w.os ∧ (w.drewN k).tape = w.tape ∧ (w.drewN k).output = w.output := by
    intro k
    induction k with
    | zero => exact ⟨rfl, rfl, rfl, rfl⟩
    | succ k ih => simp [World.drewN, World.drew] at ih ⊢
  obtain ⟨h1, h2, h3, h4⟩ := hh k
  exact ⟨h2, h3, h4, by rw [h1]; exact Nat.le_refl _, fun i _ _ => by rw [h1]⟩

set_option maxRecDepth 100000 in
set_option maxHeartbeats 4000000 in
theorem law4 (a0 : Option Addr) (n cap : Nat) (zs : List Int) (w : World) (hn : n ≤ 1024)
    (hin : ∀ k, k < n → ∃ ib io, a0 = some ⟨ib, io, none⟩ ∧ ib < w.heap.size ∧ w.cell? ⟨ib, io + k, none⟩ = some (.int .i64 (zs.getD k 0)) ∧ -9223372036854775808 ≤ zs.getD k 0 ∧ zs.getD k 0 ≤ 9223372036854775807) :
    Calls Yba.prog 4 #[.slice a0 n cap] w fun e w' => e = .returned (.bool true) ∧ Below w.heap.size w w' := by
  have HIN : Hid (∀ k, k < n → _) := hin
  clear hin
  go_enter Yba.func4, Yba.ntmps4
  go_wp2_with fail
  go_loopw [5] (fun iv wr => ∃ (k : Nat) (L : List Nat) (v : Value) (id key : Nat → Int), iv = .int .i64 k ∧ k ≤ n ∧ S1 w k L v id key wr) (fun iv _ => n - (intOf iv).toNat)
  case atStart =>
    refine ⟨0, [], .slice none 0 0, fun _ => 0, fun _ => 0, rfl, Nat.zero_le _, rfl, ⟨BlkIs.new w _ _, ⟨rfl, .inl ⟨rfl, rfl⟩⟩, fun e he => (by cases he), List.nodup_nil, (by intro e; cases e), fun e he => (by cases he)⟩, ?_, fun e he => (by cases he), fun e he => (by cases he), fun e he => (by cases he), gb_below (World.grownBy_alloc _ _ none) (Nat.le_refl _) (fun k e => by cases e)⟩
    intro k h0 hk
    simp at hk
  case round =>
    obtain ⟨k, L, v, id, key, rfl, hk, s⟩ := hrel
    have HS : Hid (S1 _ _ _ _ _ _ _) := s
    clear s
    by_cases hlt : k < n
    · obtain ⟨ib, io, rfl, hib, hc, z0, z1⟩ := HIN.out k hlt
      have hc1 : wr.cell? ⟨ib, io + k, none⟩ = some (.int .i64 (zs.getD k 0)) := (HS.out.below.cell (p := ⟨ib, io + k, none⟩) hib).trans hc
      obtain ⟨z, hz⟩ : ∃ z, zs.getD k 0 = z := ⟨_, rfl⟩
      rw [hz] at hc hc1 z0 z1
      have HZ : Hid (zs.getD k 0 = z) := hz
      clear hz hc
      go_wp2_with (first
        | (go_at_call 6; refine (add_any z _ z0 z1).mono ?_; rintro e w1 ⟨rfl, g1⟩; unfold tm)
        | (go_at_call 7; refine (HS.out.push g1 z (by omega)).mono ?_; rintro e w2 ⟨rfl, L2, v2, id2, key2, s2⟩; have HS2 : Hid (S1 _ _ _ _ _ _ w2) := s2; clear s2))
      exact ⟨⟨k + 1, L2, v2, id2, key2, by go_num, by omega, HS2.out⟩, by simp [intOf]; omega⟩
    · obtain rfl : k = n := by omega
      have sl := HS.out.len
      have hrow := HS.out.q.row
      rw [sl] at hrow
      obtain ⟨a, c, rfl⟩ := own_shape hrow
      have cv : wr.cell? ⟨w.heap.size, 0, none⟩ = some (.slice a k c) := by rw [HS.out.q.var.cells]; rfl
      have hmk := fun wx => run_make_row' (P := Yba.prog) 44 4 (.bool false) 1 Yba.underlying44 Yba.info4 rfl .i64 .i64 k (by omega) (by omega) wx
      clear hrow sl
      go_wp2_with fail
      clear hmk cv
      obtain ⟨w0, hw0⟩ : ∃ w0, w0 = wr := ⟨_, rfl⟩
      subst hw0
      have lw0 : w.heap.size < w0.heap.size := HS.out.q.var.lt
      have hmc : madeCells #[Value.bool false] k = bools (List.replicate k false) := by
        apply Array.ext
        · simp [madeCells, bools]
        · intro i h1 h2
          simp [madeCells, bools, Nat.mod_one]
      have HMC : Hid (madeCells _ _ = _) := hmc
      clear hmc
      go_loopw [9] (fun iv wr => ∃ (j : Nat) (L : List Nat) (v : Value) (bs : List Bool) (p : Int), iv = .int .i64 j ∧ j ≤ k ∧ S2 w k w0.heap.size (w0.heap.size + 1) j L v id key bs p wr) (fun iv _ => k - (intOf iv).toNat)
      case atStart =>
        have s := HS.out
        have hlt : ∀ e ∈ L, e < w0.heap.size := by
          intro e he
          obtain ⟨x, hx⟩ := s.q.ents e he
          exact hx.lt
        refine ⟨0, L, .slice a k c, List.replicate k false, 0, rfl, Nat.zero_le _, ?_⟩
        exact {
          len := s.len
          q := (s.q.gb (World.grownBy_alloc _ _ _)).gb (World.grownBy_alloc _ _ _)
          heap := s.heap
          ids := s.ids
          inj := s.inj
          low := s.low
          seen := by rw [← HMC.out]; exact (BlkIs.new w0 _ _).alloc _
          blen := by simp
          unseen := fun e he => by
            have := s.ids e he
            rw [List.getElem?_replicate, if_pos (by omega)]
          prev := BlkIs.newAt (by simp) _ _
          least := fun h => by omega
          dif := by omega
          ds := by
            rintro (h | h | h)
            · omega
            · have := (s.q.own_lt h).1; omega
            · have := hlt _ h; omega
          dp := by
            rintro (h | h | h)
            · omega
            · have := (s.q.own_lt h).1; omega
            · have := hlt _ h; omega
          ls := by omega
          lp := by omega
          below := (s.below.alloc (by omega) _).alloc (by simp; omega) _ }
      case round =>
        obtain ⟨j, L1, v1, bs, p, rfl, hj, s2⟩ := hrel
        have HS2 : Hid (S2 _ _ _ _ _ _ _ _ _ _ _ wr) := s2
        clear s2
        by_cases hlt2 : j < k
        · have heq := eq_nil25
          have hta := ta
          go_wp2_with (go_at_call 8; refine (HS2.out.pop hlt2 (by omega)).mono ?_; rintro e w2 ⟨eb, v2, R, rfl, p2⟩; have HP : Hid (P2 _ _ _ _ _ _ _ _ _ _ _ _ w2) := p2; obtain ⟨d, a2, m2, c2, rfl, hm2, hd, hdk, ce0, ce8, cs, fs, cvv, ce5, ce6, ce7, cp0, cp1, cp2, hne⟩ := p2.facts; have HD : Hid (id eb = _) := hd; have em : (k : Int) - 1 - (j : Int) = (m2 : Int) := (by omega); have ed : ((d : Int) + 1 - 1) = (d : Int) := (by omega); clear p2 hd)
          obtain ⟨w3, hw3⟩ : ∃ w3, w3 = w2.setCell ⟨w0.heap.size, d, none⟩ (.bool true) := ⟨_, rfl⟩
          rw [← hw3]
          have HC3 : Hid (Chg (fun k => k = w0.heap.size ∨ k = w0.heap.size + 1) w2 w3) := by rw [hw3]; exact (Chg.refl _ _).set _ _ (.inl rfl)
          have HS3 : Hid (BlkIs w3 w0.heap.size (bools (bs.set d true)) 4) := by rw [hw3, ← bools_set]; exact HP.out.seen.set _
          have HP3 : Hid (BlkIs w3 (w0.heap.size + 1) (tm p) 33) := by rw [hw3]; exact HP.out.prev.setOther _ (by omega)
          have HE3 : Hid (BlkIs w3 eb (entc (id eb) (key eb) (-1)) 35) := by rw [hw3]; exact HP.out.ent.setOther _ HP.out.es
          have HV3 : Hid (BlkIs w3 w.heap.size #[.slice a2 m2 c2] 24) := by rw [hw3]; exact HP.out.q.var.setOther _ (by omega)
          clear hw3 ce0 ce8 cs fs cvv ce5 ce6 ce7 cp0 cp1 cp2 heq hta
          by_cases hj0 : j = 0
          · subst hj0
            go_quiet (fail)
            have g4 := gb_dn w3 nq
            obtain ⟨w4, hw4⟩ : ∃ w4, w4 = w3.drewN nq := ⟨_, rfl⟩
            rw [← hw4] at g4 ⊢
            clear hw4
            have HC4 : Hid (Chg (fun k => k = w0.heap.size ∨ k = w0.heap.size + 1) w2 w4) := HC3.out.trans (Chg.none g4)
            have HS4 : Hid (BlkIs w4 w0.heap.size (bools (bs.set d true)) 4) := HS3.out.gbn g4
            have HP4 : Hid (BlkIs w4 (w0.heap.size + 1) (tm p) 33) := HP3.out.gbn g4
            have HV4 : Hid (BlkIs w4 w.heap.size #[.slice a2 m2 c2] 24) := HV3.out.gbn g4
            have ce5 : w4.cell? ⟨eb, 5, none⟩ = some (.int .u64 (key eb % 1000000000)) := (HE3.out.gbn g4).cells 5
            have ce6 : w4.cell? ⟨eb, 6, none⟩ = some (.int .i64 (key eb / 1000000000)) := (HE3.out.gbn g4).cells 6
            have ce7 : w4.cell? ⟨eb, 7, none⟩ = some (.pointer none) := (HE3.out.gbn g4).cells 7
            clear g4
            go_wp2_with (refine wpList_store_row rfl 33 (.tmp 8) (.tmp 103) rfl (w0.heap.size + 1) (tm (key eb)) (by rfl) (by rfl) 33 _ HP4.out rfl (by kernel_rfl) (by simp [tm, Value.oneCell']) ?_; have cv5 : World.cell? (World.setRow w4 (w0.heap.size + 1) (tm (key eb))) ⟨w.heap.size, 0, none⟩ = some (.slice a2 m2 c2) := (by rw [(HV4.out.gb (gb_setRow _ _ _) (by simp; omega)).cells]; rfl))
            refine ⟨⟨0 + 1, R, _, bs.set (id eb - 1).toNat true, key eb, by go_num, by omega, HP.out.next ?_ ?_ ?_⟩, by simp [intOf]; omega⟩
            · exact (HC4.out).trans (Chg.of (gb_setRow _ _ _) (fun k e => by cases e; exact .inr rfl))
            · rw [HD.out, show ((d : Int) + 1 - 1).toNat = d by omega]; exact HS4.out.gb (gb_setRow _ _ _) (by simp)
            · exact heap_setRow_same HP4.out
          · have HLE : Hid (p ≤ key eb) := HP.out.eleast (by omega)
            have j1 : decide ((0 : Int) < (j : Int)) = true := decide_eq_true (by omega)
            have hb : decide (key eb < p) = false := decide_eq_false (Int.not_lt.2 HLE.out)
            have j2 : 0 < j := by omega
            have j3 : (0 : Int) < (j : Int) := by omega
            have HB : Hid (decide (key eb < p) = false) := hb
            clear hb
            go_region_held3 (fun w' => w'.cell? ⟨eb, 5, none⟩ = some (.int .u64 (key eb % 1000000000)) ∧ w'.cell? ⟨eb, 6, none⟩ = some (.int .i64 (key eb / 1000000000)) ∧ w'.cell? ⟨eb, 7, none⟩ = some (.pointer none) ∧
                w'.cell? ⟨w0.heap.size + 1, 0, none⟩ = some (.int .u64 (p % 1000000000)) ∧ w'.cell? ⟨w0.heap.size + 1, 1, none⟩ = some (.int .i64 (p / 1000000000)) ∧ w'.cell? ⟨w0.heap.size + 1, 2, none⟩ = some (.pointer none))
              (first | exact ⟨HE3.out.cells 5, HE3.out.cells 6, HE3.out.cells 7, HP3.out.cells 0, HP3.out.cells 1, HP3.out.cells 2⟩
                     | exact ⟨(HE3.out.gbn (gb_undrew g1)).cells 5, (HE3.out.gbn (gb_undrew g1)).cells 6, (HE3.out.gbn (gb_undrew g1)).cells 7, (HP3.out.gbn (gb_undrew g1)).cells 0, (HP3.out.gbn (gb_undrew g1)).cells 1, (HP3.out.gbn (gb_undrew g1)).cells 2⟩)
              (first | (go_at_call 9; refine (before_any (key eb) p _).mono ?_; rw [HB.out]; rintro e w4 ⟨rfl, g1⟩))
            have g4 := gb_undrew g1
            clear g1
            have HC4 : Hid (Chg (fun k => k = w0.heap.size ∨ k = w0.heap.size + 1) w2 w4) := HC3.out.trans (Chg.none g4)
            have HS4 : Hid (BlkIs w4 w0.heap.size (bools (bs.set d true)) 4) := HS3.out.gbn g4
            have HP4 : Hid (BlkIs w4 (w0.heap.size + 1) (tm p) 33) := HP3.out.gbn g4
            have HV4 : Hid (BlkIs w4 w.heap.size #[.slice a2 m2 c2] 24) := HV3.out.gbn g4
            have ce5 : w4.cell? ⟨eb, 5, none⟩ = some (.int .u64 (key eb % 1000000000)) := (HE3.out.gbn g4).cells 5
            have ce6 : w4.cell? ⟨eb, 6, none⟩ = some (.int .i64 (key eb / 1000000000)) := (HE3.out.gbn g4).cells 6
            have ce7 : w4.cell? ⟨eb, 7, none⟩ = some (.pointer none) := (HE3.out.gbn g4).cells 7
            clear g4
            go_wp2_with (refine wpList_store_row rfl 33 (.tmp 8) (.tmp 103) rfl (w0.heap.size + 1) (tm (key eb)) (by rfl) (by rfl) 33 _ HP4.out rfl (by kernel_rfl) (by simp [tm, Value.oneCell']) ?_; have cv5 : World.cell? (World.setRow w4 (w0.heap.size + 1) (tm (key eb))) ⟨w.heap.size, 0, none⟩ = some (.slice a2 m2 c2) := (by rw [(HV4.out.gb (gb_setRow _ _ _) (by simp; omega)).cells]; rfl))
            refine ⟨⟨j + 1, R, _, bs.set (id eb - 1).toNat true, key eb, by go_num, by omega, HP.out.next ?_ ?_ ?_⟩, by simp [intOf]; omega⟩
            · exact (HC4.out).trans (Chg.of (gb_setRow _ _ _) (fun k e => by cases e; exact .inr rfl))
            · rw [HD.out, show ((d : Int) + 1 - 1).toNat = d by omega]; exact HS4.out.gb (gb_setRow _ _ _) (by simp)
            · exact heap_setRow_same HP4.out
        · obtain rfl : j = k := by omega
          have hlen := HS2.out.len
          have h0 : L1.length = 0 := by omega
          have hrow := HS2.out.q.row
          rw [h0] at hrow
          obtain ⟨a1, c1, rfl⟩ := own_shape hrow
          have cv1 : wr.cell? ⟨w.heap.size, 0, none⟩ = some (.slice a1 0 c1) := by rw [HS2.out.q.var.cells]; rfl
          clear hrow hlen h0
          go_wp2_with fail
          go_ret
          exact ⟨rfl, HS2.out.below⟩
end Go.Proofs.Ybulkzk
