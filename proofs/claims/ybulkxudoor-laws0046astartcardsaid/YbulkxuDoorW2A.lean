import Derived.Test.YbulkxuDoorRow
namespace Go.Proofs.YbulkxuDoor
open Go.RowKit
set_option linter.all false

theorem len18 (l : List Value) (h : l.length = 18) : ∃ a0 a1 a2 a3 a4 a5 a6 a7 a8 a9 a10 a11 a12 a13 a14 a15 a16 a17, l = [a0, a1, a2, a3, a4, a5, a6, a7, a8, a9, a10, a11, a12, a13, a14, a15, a16, a17] := by
  match l, h with
  | [a0, a1, a2, a3, a4, a5, a6, a7, a8, a9, a10, a11, a12, a13, a14, a15, a16, a17], _ => exact ⟨a0, a1, a2, a3, a4, a5, a6, a7, a8, a9, a10, a11, a12, a13, a14, a15, a16, a17, rfl⟩

theorem Ybad.info53 : (Ybad.prog.info? 53).map (fun i => (i.zero, i.size, i.bytes)) = some (some (.agg #[.int .i64 0, .string ⟨#[]⟩, .int .u8 0, .string ⟨#[]⟩, .int .u8 0, .string ⟨#[]⟩, .string ⟨#[]⟩, .int .i64 0, .int .u8 0, .string ⟨#[]⟩, .int .u8 0, .string ⟨#[]⟩, .string ⟨#[]⟩, .int .u8 0, .slice none 0 0, .string ⟨#[]⟩, .int .u8 0, .string ⟨#[]⟩, .int .i64 0]), 19, 240) := by kernel_rfl
theorem Ybad.isize51 : (Ybad.prog.info? 51).map (·.size) = some 18 := by kernel_rfl

set_option maxRecDepth 100000 in
set_option maxHeartbeats 1000000 in
theorem toHalvesA_any (lo up : List Value) (hlo : lo.length = 18) (hup : up.length = 18) (olo : ∀ u ∈ lo, u.oneCell' = true) (oup : ∀ u ∈ up, u.oneCell' = true)
    (honest : Nat) (v : Value) (n : Nat) (xs : List Value) (B : Nat) (w : World) (hB : B ≤ w.heap.size) (hown : w.ownsRow B 53 19 v n xs) (hn : n + honest ≤ 10000000) :
    Calls Ybad.prog 15 #[v, .int .i64 honest, .agg lo.toArray, .agg up.toArray] w fun e w' => ∃ v', e = .returned v' ∧ w'.ownsRow B 53 19 v' (n + honest) (xs ++ halves honest lo up honest) ∧ w.grownBy w' v.ownBlock ∧
      (v'.ownBlock = v.ownBlock ∨ ∃ g, v'.ownBlock = some g ∧ w.heap.size ≤ g) := by
  obtain ⟨i0, hi, hz0, hz1, hz2⟩ := info_parts Ybad.info53
  go_enter Ybad.func15, Ybad.ntmps15
  go_wp2_with fail
  go_loopw [0, 12] (fun ov i wr => ∃ k : Nat, k ≤ honest ∧ i = .int .i64 k ∧ wr.ownsRow B 53 19 ov (n + k) (xs ++ halves honest lo up k) ∧ w.grownBy wr v.ownBlock ∧
      wr.heap[w.heap.size]? = some (.cells lo.toArray 51) ∧ wr.heap[w.heap.size + 1]? = some (.cells up.toArray 51) ∧ (ov.ownBlock = v.ownBlock ∨ ∃ g, ov.ownBlock = some g ∧ w.heap.size + 1 < g)) (fun _ i _ => honest - (intOf i).toNat)
  case atStart =>
    refine ⟨0, Nat.zero_le _, rfl, ?_, ?_, ?_, ?_, .inl rfl⟩
    · simpa [halves] using (hown.alloc _).alloc _
    · exact gb_none (World.grownBy_alloc _ _ _) (World.grownBy_alloc _ _ _)
    · exact heap_alloc2_old _ _ _
    · exact heap_alloc2_new _ _ _
  case round =>
    obtain ⟨k, hk, rfl, ho, hg, h6, h7, hat⟩ := hrel
    by_cases hlt : k < honest
    · obtain ⟨l0, l1, l2, l3, l4, l5, l6, l7, l8, l9, l10, l11, l12, l13, l14, l15, l16, l17, rfl⟩ := len18 lo hlo
      obtain ⟨p0, p1, p2, p3, p4, p5, p6, p7, p8, p9, p10, p11, p12, p13, p14, p15, p16, p17, rfl⟩ := len18 up hup
      have OL : Hid (∀ u ∈ _, Value.oneCell' u = true) := olo
      have OU : Hid (∀ u ∈ _, Value.oneCell' u = true) := oup
      clear olo oup hlo hup
      have H6 : Hid (_ = _) := h6
      have H7 : Hid (_ = _) := h7
      have HO : Hid (wr.ownsRow _ _ _ _ _ _) := ho
      have HG : Hid (w.grownBy _ _) := hg
      clear h6 h7 ho hg
      have hsz : Hid (w.heap.size + 1 < wr.heap.size) := (Array.getElem?_eq_some_iff.1 H7.out).1
      have hBr : B ≤ wr.heap.size := by have := hsz.out; omega
      by_cases hhalf : (honest + 1) / 2 ≤ k
      · go_wp2_with (first
          | refine wpList_load_row rfl 51 (.tmp 6) rfl w.heap.size rfl 51 _ _ _ H6.out Ybad.underlying51 rfl Ybad.isize51 ?_
          | refine wpList_store_new (w := wr) rfl 51 (.tmp 10) (.tmp 15) rfl #[l0, l1, l2, l3, l4, l5, l6, l7, l8, l9, l10, l11, l12, l13, l14, l15, l16, l17] _ _ (by rfl) (by rfl) (by rfl) (by rfl) Ybad.isize51 (by exact OL.out) ?_
          | refine wpList_load_row rfl 51 (.tmp 7) rfl (w.heap.size + 1) rfl 51 _ _ _ ((Below.heap_alloc _ _ _ hsz.out).trans H7.out) Ybad.underlying51 rfl Ybad.isize51 ?_
          | refine wpList_store_new (w := wr) rfl 51 (.tmp 10) (.tmp 21) rfl #[p0, p1, p2, p3, p4, p5, p6, p7, p8, p9, p10, p11, p12, p13, p14, p15, p16, p17] _ _ (by rfl) (by rfl) (by rfl) (by rfl) Ybad.isize51 (by exact OU.out) ?_
          | refine wpList_load_row rfl 51 (.tmp 10) rfl wr.heap.size rfl 51 _ _ _ (heap_alloc_new wr _) Ybad.underlying51 rfl Ybad.isize51 ?_
          | (at_builtin; refine wpList_append_lies _ rfl _ _ _ rfl B 53 i0 _ 19 240 Ybad.underlying35 hi hz0 hz1 hz2 rfl (by omega) u0 (n + k) _ (by rfl) (by exact (HO.out.alloc _).alloc _) ⟨wr.heap.size + 1, 0, none⟩ 1 1 [.int .i64 k, p0, p1, p2, p3, p4, p5, p6, p7, p8, p9, p10, p11, p12, p13, p14, p15, p16, p17] (by rfl) (by rfl) (by exact World.news_of_block (heap_alloc2_new _ _ _)) (by exact one_cons _ _ OU.out) (by omega) (by unfold maxLen; omega) (by omega) (by exact hbase2 hBr) (wr.heap.size + 2) (by simp) ?_; intro g cap w1 hown1 hgrow hat1 hlt1))
        go_roundw
        case rel =>
          have hvl := fun i e => (hown.lt i e).2
          refine ⟨k + 1, by omega, by go_num, ?_, ?_, ?_, ?_, ?_⟩
          · have := hown1
            rw [List.append_assoc] at this
            simpa [halves, hhalf, Nat.add_assoc] using this
          · exact gb_trans (gb_none HG.out (gb_none (World.grownBy_alloc _ _ _) (World.grownBy_alloc _ _ _))) hgrow (at_old hat (by omega))
          · rw [hgrow.block _ (by have := hsz.out; simp; omega) (far hvl hat (by omega) (by omega)), Below.heap_alloc _ _ _ (by have := hsz.out; simp; omega), Below.heap_alloc _ _ _ (by have := hsz.out; omega)]
            exact H6.out
          · rw [hgrow.block _ (by have := hsz.out; simp; omega) (far hvl hat (by omega) (by omega)), Below.heap_alloc _ _ _ (by have := hsz.out; simp; omega), Below.heap_alloc _ _ _ (by have := hsz.out; omega)]
            exact H7.out
          · exact at_next hat hat1 (by have := hsz.out; omega)
        case measure => simp [intOf]; omega
      · go_wp2_with (first
          | refine wpList_load_row rfl 51 (.tmp 6) rfl w.heap.size rfl 51 _ _ _ H6.out Ybad.underlying51 rfl Ybad.isize51 ?_
          | refine wpList_store_new (w := wr) rfl 51 (.tmp 10) (.tmp 15) rfl #[l0, l1, l2, l3, l4, l5, l6, l7, l8, l9, l10, l11, l12, l13, l14, l15, l16, l17] _ _ (by rfl) (by rfl) (by rfl) (by rfl) Ybad.isize51 (by exact OL.out) ?_
          | refine wpList_load_row rfl 51 (.tmp 10) rfl wr.heap.size rfl 51 _ _ _ (heap_alloc_new wr _) Ybad.underlying51 rfl Ybad.isize51 ?_
          | (at_builtin; refine wpList_append_lies _ rfl _ _ _ rfl B 53 i0 _ 19 240 Ybad.underlying35 hi hz0 hz1 hz2 rfl (by omega) u0 (n + k) _ (by rfl) (by exact (HO.out.alloc _).alloc _) ⟨wr.heap.size + 1, 0, none⟩ 1 1 [.int .i64 k, l0, l1, l2, l3, l4, l5, l6, l7, l8, l9, l10, l11, l12, l13, l14, l15, l16, l17] (by rfl) (by rfl) (by exact World.news_of_block (heap_alloc2_new _ _ _)) (by exact one_cons _ _ OL.out) (by omega) (by unfold maxLen; omega) (by omega) (by exact hbase2 hBr) (wr.heap.size + 2) (by simp) ?_; intro g cap w1 hown1 hgrow hat1 hlt1))
        go_roundw
        case rel =>
          have hvl := fun i e => (hown.lt i e).2
          refine ⟨k + 1, by omega, by go_num, ?_, ?_, ?_, ?_, ?_⟩
          · have := hown1
            rw [List.append_assoc] at this
            simpa [halves, hhalf, Nat.add_assoc] using this
          · exact gb_trans (gb_none HG.out (gb_none (World.grownBy_alloc _ _ _) (World.grownBy_alloc _ _ _))) hgrow (at_old hat (by omega))
          · rw [hgrow.block _ (by have := hsz.out; simp; omega) (far hvl hat (by omega) (by omega)), Below.heap_alloc _ _ _ (by have := hsz.out; simp; omega), Below.heap_alloc _ _ _ (by have := hsz.out; omega)]
            exact H6.out
          · rw [hgrow.block _ (by have := hsz.out; simp; omega) (far hvl hat (by omega) (by omega)), Below.heap_alloc _ _ _ (by have := hsz.out; simp; omega), Below.heap_alloc _ _ _ (by have := hsz.out; omega)]
            exact H7.out
          · exact at_next hat hat1 (by have := hsz.out; omega)
        case measure => simp [intOf]; omega
    · go_wp2_with fail
      go_ret
      obtain rfl : k = honest := by omega
      exact ⟨_, rfl, ho, hg, at_le hat⟩

set_option maxRecDepth 100000 in
set_option maxHeartbeats 1000000 in
theorem toAllA_any (m : List Value) (hm : m.length = 18) (om : ∀ u ∈ m, u.oneCell' = true) (sb : Nat)
    (np : Nat) (v : Value) (n : Nat) (xs : List Value) (B : Nat) (w : World) (hB : B ≤ w.heap.size) (hown : w.ownsRow B 53 19 v n xs) (hn : n + np ≤ 10000000)
    (hsb : w.heap[sb]? = some (.cells m.toArray 51)) :
    Calls Ybad.prog 18 #[v, .int .i64 np, .slice (some ⟨sb, 0, none⟩) 1 1] w fun e w' => ∃ v', e = .returned v' ∧ w'.ownsRow B 53 19 v' (n + np) (xs ++ toAll m np) ∧ w.grownBy w' v.ownBlock ∧
      (v'.ownBlock = v.ownBlock ∨ ∃ g, v'.ownBlock = some g ∧ w.heap.size ≤ g) := by
  obtain ⟨i0, hi, hz0, hz1, hz2⟩ := info_parts Ybad.info53
  obtain ⟨l0, l1, l2, l3, l4, l5, l6, l7, l8, l9, l10, l11, l12, l13, l14, l15, l16, l17, rfl⟩ := len18 m hm
  have OL : Hid (∀ u ∈ _, Value.oneCell' u = true) := om
  have HSB : Hid (_ = _) := hsb
  clear om hm hsb
  go_enter Ybad.func18, Ybad.ntmps18
  go_wp2_with fail
  refine wp_loop_rounds 2 ?_
  rw [rounds_succ]
  go_wp2_with (first
    | refine wpList_load_row rfl 51 (.tmp 14) rfl sb rfl 51 _ _ _ HSB.out Ybad.underlying51 rfl Ybad.isize51 ?_
    | refine wpList_store_new (w := w) rfl 51 (.tmp 8) (.tmp 15) rfl #[l0, l1, l2, l3, l4, l5, l6, l7, l8, l9, l10, l11, l12, l13, l14, l15, l16, l17] _ _ (by rfl) (by rfl) (by rfl) (by rfl) Ybad.isize51 (by exact OL.out) ?_)
  go_loopw [0, 17] (fun ov i wr => ∃ k : Nat, k ≤ np ∧ i = .int .i64 k ∧ wr.ownsRow B 53 19 ov (n + k) (xs ++ toAll [l0, l1, l2, l3, l4, l5, l6, l7, l8, l9, l10, l11, l12, l13, l14, l15, l16, l17] k) ∧ w.grownBy wr v.ownBlock ∧
      wr.heap[w.heap.size]? = some (.cells #[l0, l1, l2, l3, l4, l5, l6, l7, l8, l9, l10, l11, l12, l13, l14, l15, l16, l17] 51) ∧ (ov.ownBlock = v.ownBlock ∨ ∃ g, ov.ownBlock = some g ∧ w.heap.size < g)) (fun _ i _ => np - (intOf i).toNat)
  case atStart =>
    refine ⟨0, Nat.zero_le _, rfl, ?_, ?_, ?_, .inl rfl⟩
    · simpa [toAll] using hown.alloc _
    · exact World.grownBy_alloc _ _ _
    · exact heap_alloc_new _ _
  case round =>
    obtain ⟨k, hk, rfl, ho, hg, h6, hat⟩ := hrel
    by_cases hlt : k < np
    · have H6 : Hid (_ = _) := h6
      have HO : Hid (wr.ownsRow _ _ _ _ _ _) := ho
      have HG : Hid (w.grownBy _ _) := hg
      clear h6 ho hg
      have hsz : Hid (w.heap.size < wr.heap.size) := (Array.getElem?_eq_some_iff.1 H6.out).1
      have hBr : B ≤ wr.heap.size := by have := hsz.out; omega
      go_wp2_with (first
        | refine wpList_load_row rfl 51 (.tmp 8) rfl w.heap.size rfl 51 _ _ _ H6.out Ybad.underlying51 rfl Ybad.isize51 ?_
        | (at_builtin; refine wpList_append_lies _ rfl _ _ _ rfl B 53 i0 _ 19 240 Ybad.underlying35 hi hz0 hz1 hz2 rfl (by omega) u0 (n + k) _ (by rfl) (by exact HO.out.alloc _) ⟨wr.heap.size, 0, none⟩ 1 1 [.int .i64 k, l0, l1, l2, l3, l4, l5, l6, l7, l8, l9, l10, l11, l12, l13, l14, l15, l16, l17] (by rfl) (by rfl) (by exact World.news_of_block (heap_alloc_new _ _)) (by exact one_cons _ _ OL.out) (by omega) (by unfold maxLen; omega) (by omega) (by exact hbase1 hBr) (wr.heap.size + 1) (by simp) ?_; intro g cap w1 hown1 hgrow hat1 hlt1))
      go_roundw
      case rel =>
        have hvl := fun i e => (hown.lt i e).2
        refine ⟨k + 1, by omega, by go_num, ?_, ?_, ?_, ?_⟩
        · have := hown1
          rw [List.append_assoc] at this
          simpa [toAll, Nat.add_assoc] using this
        · exact gb_trans (gb_none HG.out (World.grownBy_alloc _ _ _)) hgrow (at_old hat (by omega))
        · rw [hgrow.block _ (by have := hsz.out; simp; omega) (far hvl hat (by omega) (by omega)), Below.heap_alloc _ _ _ (by have := hsz.out; omega)]
          exact H6.out
        · exact at_next hat hat1 (by have := hsz.out; omega)
      case measure => simp [intOf]; omega
    · go_wp2_with fail
      rw [rounds_succ]
      go_wp2_with fail
      go_ret
      obtain rfl : k = np := by omega
      exact ⟨_, rfl, ho, hg, at_le hat⟩
end Go.Proofs.YbulkxuDoor
