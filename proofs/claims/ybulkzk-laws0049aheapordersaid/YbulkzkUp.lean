import Derived.Test.YbulkzkH5
namespace Go.Proofs.Ybulkzk
open Go.RowKit
set_option linter.all false
set_option maxHeartbeats 2000000 in
theorem up_any {id key : Nat → Int} {B vb : Nat} {v : Value} {L : List Nat} {w : World} (h : Q id key B vb v L w) (j : Nat) (hj : j < L.length) (hn : L.length ≤ 1024) (hinv : UpInv (fun k => key (L.getD k 0)) L.length j) :
    Calls Yba.prog 14 #[.iface 43 (.pointer (some ⟨vb, 0, none⟩)), .int .i64 j] w fun e w' => e = .returned (.tuple #[]) ∧
      ∃ L', L'.Perm L ∧ HeapTo (fun k => key (L'.getD k 0)) L.length ∧ Q id key B vb v L' w' ∧ Chg (QB vb v L) w w' := by
  obtain ⟨N, hN⟩ : ∃ N, N = L.length := ⟨_, rfl⟩
  rw [← hN] at hj hn hinv ⊢
  have HN : Hid (N = L.length) := hN
  have HV : Hid (UpInv _ _ _) := hinv
  have HQ : Hid (Q id key B vb v L w) := h
  clear hN hinv h
  go_enter Yba.func14, Yba.ntmps14
  go_wp2_with fail
  go_loopw [1] (fun iv wr => ∃ (j : Nat) (L' : List Nat), iv = .int .i64 j ∧ j < N ∧ L'.Perm L ∧ UpInv (fun k => key (L'.getD k 0)) N j ∧ Q id key B vb v L' wr ∧ Chg (QB vb v L) w wr) (fun iv _ => (intOf iv).toNat)
  case atStart => exact ⟨j, L, rfl, hj, List.Perm.refl _, HV.out, HQ.out, Chg.refl _ _⟩
  case round =>
    obtain ⟨j, L', rfl, hj, hp, hu, hq, hc⟩ := hrel
    have hlen : L'.length = N := by rw [hp.length_eq, HN.out]
    have cv : wr.cell? ⟨vb, 0, none⟩ = some v := by rw [hq.var.cells]; rfl
    have ml := m_less ⟨vb, 0, none⟩ v wr cv
    by_cases j0 : j = 0
    · subst j0
      have HQ' : Hid (Q _ _ _ _ _ _ wr) := hq
      clear hq
      go_wp2_with fail
      exact bodyPost_end (results_none rfl _ _ _) rfl ⟨rfl, L', hp, up_done hu (.inl rfl), HQ'.out, hc⟩
    · obtain ⟨i, hi⟩ : ∃ i, i = (j - 1) / 2 := ⟨_, rfl⟩
      have e1 : ((j : Int) - 1) = ((j - 1 : Nat) : Int) := by omega
      have e2 : ((j - 1 : Nat) : Int).tdiv 2 = (i : Int) := by rw [hi]; exact (Int.ofNat_tdiv (j - 1) 2).symm
      have hij : i < j := by omega
      have e3 : ((i : Int) == (j : Int)) = false := beq_eq_false_iff_ne.2 (by omega)
      have HI : Hid (i = (j - 1) / 2) := hi
      have hLess := lessQ hq j i (by omega) (by omega) (by omega)
      have HQ' : Hid (Q _ _ _ _ _ _ wr) := hq
      clear hq hi
      by_cases hlt : key (L'.getD j 0) < key (L'.getD i 0)
      · rw [decide_eq_true hlt] at hLess
        have HLT : Hid (key (L'.getD j 0) < _) := hlt
        clear hlt
        go_wp2_with (first
          | (go_at_call 34; refine hLess.mono ?_; rintro e w1 ⟨rfl, g1⟩; have ms := m_swap ⟨vb, 0, none⟩ v w1 (by rw [(HQ'.out.gb g1).var.cells]; rfl))
          | (go_at_call 35; refine (swapQ (HQ'.out.gb g1) i j (by omega) (by omega) (by omega)).mono ?_; rintro e w2 ⟨rfl, hq2, hc2⟩; have HQ2 : Hid (Q _ _ _ _ _ _ w2) := hq2; clear hq2))
        refine ⟨⟨i, lsw L' i j, rfl, by omega, (lsw_perm L' i j (by omega) (by omega)).trans hp, ?_, HQ2.out, ?_⟩, by simp [intOf]; omega⟩
        · rw [lsw_key key L' i j (by omega) (by omega)]
          have := up_step hu (by omega) hj (by rw [← HI.out]; exact HLT.out)
          rw [← HI.out] at this; exact this
        · refine (hc.trans (Chg.none g1)).trans (hc2.weak ?_)
          rintro k - (h | h | h)
          · exact .inl h
          · exact .inr (.inl h)
          · exact .inr (.inr (hp.mem_iff.1 h))
      · rw [decide_eq_false hlt] at hLess
        have HLT : Hid (¬ key (L'.getD j 0) < _) := hlt
        clear hlt
        go_wp2_with (go_at_call 34; refine hLess.mono ?_; rintro e w1 ⟨rfl, g1⟩)
        exact bodyPost_end (results_none rfl _ _ _) rfl ⟨rfl, L', hp, up_done hu (.inr (by rw [← HI.out]; exact Int.not_lt.2 HLT.out)), HQ'.out.gb g1, hc.trans (Chg.none g1)⟩
end Go.Proofs.Ybulkzk
