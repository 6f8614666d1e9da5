import Derived.Test.YbulkzkH5
namespace Go.Proofs.Ybulkzk
open Go.RowKit
set_option linter.all false
set_option maxHeartbeats 4000000 in
theorem down_any {id key : Nat → Int} {B vb : Nat} {v : Value} {L : List Nat} {w : World} (h : Q id key B vb v L w) (m : Nat) (hm : m ≤ L.length) (hn : L.length ≤ 1024) (hinv : DownInv (fun k => key (L.getD k 0)) m 0) :
    Calls Yba.prog 15 #[.iface 43 (.pointer (some ⟨vb, 0, none⟩)), .int .i64 0, .int .i64 m] w fun e w' => ∃ b, e = .returned (.bool b) ∧
      ∃ L', L'.Perm L ∧ (∀ k, m ≤ k → L'.getD k 0 = L.getD k 0) ∧ HeapTo (fun k => key (L'.getD k 0)) m ∧ Q id key B vb v L' w' ∧ Chg (QB vb v L) w w' := by
  obtain ⟨N, hN⟩ : ∃ N, N = L.length := ⟨_, rfl⟩
  rw [← hN] at hm hn
  have HN : Hid (N = L.length) := hN
  have HV : Hid (DownInv _ _ _) := hinv
  have HQ : Hid (Q id key B vb v L w) := h
  clear hN hinv h
  go_enter Yba.func15, Yba.ntmps15
  go_wp2_with fail
  go_loopw [7] (fun iv wr => ∃ (i : Nat) (L' : List Nat), iv = .int .i64 i ∧ i ≤ m ∧ L'.Perm L ∧ (∀ k, m ≤ k → L'.getD k 0 = L.getD k 0) ∧ DownInv (fun k => key (L'.getD k 0)) m i ∧ Q id key B vb v L' wr ∧ Chg (QB vb v L) w wr) (fun iv _ => m - (intOf iv).toNat)
  case atStart => exact ⟨0, L, rfl, Nat.zero_le _, List.Perm.refl _, fun _ _ => rfl, HV.out, HQ.out, Chg.refl _ _⟩
  case round =>
    obtain ⟨i, L', rfl, hi, hp, ht, hd, hq, hc⟩ := hrel
    have hlen : L'.length = N := by rw [hp.length_eq, HN.out]
    have ml := m_less ⟨vb, 0, none⟩ v wr (by rw [hq.var.cells]; rfl)
    obtain ⟨j1, hj1⟩ : ∃ j1, j1 = 2 * i + 1 := ⟨_, rfl⟩
    obtain ⟨j2, hj2⟩ : ∃ j2, j2 = j1 + 1 := ⟨_, rfl⟩
    have e1 : 2 * (i : Int) + 1 = (j1 : Int) := by omega
    have e2 : (j1 : Int) + 1 = (j2 : Int) := by omega
    have HQ' : Hid (Q _ _ _ _ _ _ wr) := hq
    have HT : Hid (∀ k, m ≤ k → _) := ht
    have HJ1 : Hid (j1 = _) := hj1
    have HJ2 : Hid (j2 = _) := hj2
    clear hq ht
    by_cases c1 : j1 < m
    · have ij1 : i < j1 := by omega
      have ij2 : i < j2 := by omega
      by_cases c2 : j2 < m
      · have hLess1 := lessQ HQ'.out j2 j1 (by omega) (by omega) (by omega)
        clear hj1 hj2
        by_cases l1 : key (L'.getD j2 0) < key (L'.getD j1 0)
        · rw [decide_eq_true l1] at hLess1
          have HL1 : Hid (key (L'.getD j2 0) < key (L'.getD j1 0)) := l1
          clear l1
          by_cases l2 : key (L'.getD j2 0) < key (L'.getD i 0)
          · have HL2 : Hid (key (L'.getD j2 0) < key (L'.getD i 0)) := l2
            have D2 : decide (key (L'.getD j2 0) < key (L'.getD i 0)) = true := decide_eq_true l2
            have HD2 : Hid (decide (key (L'.getD j2 0) < key (L'.getD i 0)) = true) := D2
            clear l2 D2
            go_wp2_with (first
              | (go_at_call 34; refine hLess1.mono ?_; clear hLess1; rintro e w1 ⟨rfl, g1⟩; have ml1 := m_less ⟨vb, 0, none⟩ v w1 (by rw [(HQ'.out.gb g1).var.cells]; rfl))
              | (go_at_call 34; refine (lessQ (HQ'.out.gb g1) j2 i (by omega) (by omega) (by omega)).mono ?_; rw [HD2.out]; rintro e w2 ⟨rfl, g2⟩; have ms := m_swap ⟨vb, 0, none⟩ v w2 (by rw [((HQ'.out.gb g1).gb g2).var.cells]; rfl))
              | (go_at_call 35; refine (swapQ ((HQ'.out.gb g1).gb g2) i j2 (by omega) (by omega) (by omega)).mono ?_; rintro e w3 ⟨rfl, hq3, hc3⟩; have HQ3 : Hid (Q _ _ _ _ _ _ w3) := hq3; clear hq3))
            refine ⟨⟨j2, lsw L' i j2, rfl, by omega, (lsw_perm L' i j2 (by omega) (by omega)).trans hp, ?_, ?_, HQ3.out, ?_⟩, by simp [intOf]; omega⟩
            · intro k hk
              rw [lsw_at L' i j2 k (by omega) (by omega), if_neg (by omega), if_neg (by omega)]; exact HT.out k hk
            · rw [lsw_key key L' i j2 (by omega) (by omega)]
              have q1 := HJ1.out
              have q2 := HJ2.out
              refine down_step hd (by omega) (by omega) HL2.out (fun k hk hx => ?_)
              obtain hx | hx : k = j1 ∨ k = j2 := by omega
              · rw [hx]; exact Int.le_of_lt HL1.out
              · rw [hx]; exact Int.le_refl _
            · refine ((hc.trans (Chg.none g1)).trans (Chg.none g2)).trans (hc3.weak ?_)
              rintro k - (h | h | h)
              · exact .inl h
              · exact .inr (.inl h)
              · exact .inr (.inr (hp.mem_iff.1 h))
          · have HL2 : Hid (key (L'.getD i 0) ≤ key (L'.getD j2 0)) := Int.not_lt.1 l2
            have D2 : decide (key (L'.getD j2 0) < key (L'.getD i 0)) = false := decide_eq_false l2
            have HD2 : Hid (decide (key (L'.getD j2 0) < key (L'.getD i 0)) = false) := D2
            clear l2 D2
            go_wp2_with (first
              | (go_at_call 34; refine hLess1.mono ?_; clear hLess1; rintro e w1 ⟨rfl, g1⟩; have ml1 := m_less ⟨vb, 0, none⟩ v w1 (by rw [(HQ'.out.gb g1).var.cells]; rfl))
              | (go_at_call 34; refine (lessQ (HQ'.out.gb g1) j2 i (by omega) (by omega) (by omega)).mono ?_; rw [HD2.out]; rintro e w2 ⟨rfl, g2⟩))
            go_ret
            refine ⟨_, rfl, L', hp, HT.out, down_done hd (fun k hk hx => ?_), (HQ'.out.gb g1).gb g2, (hc.trans (Chg.none g1)).trans (Chg.none g2)⟩
            have q1 := HJ1.out
            have q2 := HJ2.out
            have q3 := HL2.out
            obtain hx | hx : k = j1 ∨ k = j2 := by omega
            · refine Int.le_trans q3 ?_
              rw [hx]; exact Int.le_of_lt HL1.out
            · refine Int.le_trans q3 ?_
              rw [hx]; exact Int.le_refl _
        · rw [decide_eq_false l1] at hLess1
          have HL1 : Hid (key (L'.getD j1 0) ≤ key (L'.getD j2 0)) := Int.not_lt.1 l1
          clear l1
          by_cases l2 : key (L'.getD j1 0) < key (L'.getD i 0)
          · have HL2 : Hid (key (L'.getD j1 0) < key (L'.getD i 0)) := l2
            have D2 : decide (key (L'.getD j1 0) < key (L'.getD i 0)) = true := decide_eq_true l2
            have HD2 : Hid (decide (key (L'.getD j1 0) < key (L'.getD i 0)) = true) := D2
            clear l2 D2
            go_wp2_with (first
              | (go_at_call 34; refine hLess1.mono ?_; clear hLess1; rintro e w1 ⟨rfl, g1⟩; have ml1 := m_less ⟨vb, 0, none⟩ v w1 (by rw [(HQ'.out.gb g1).var.cells]; rfl))
              | (go_at_call 34; refine (lessQ (HQ'.out.gb g1) j1 i (by omega) (by omega) (by omega)).mono ?_; rw [HD2.out]; rintro e w2 ⟨rfl, g2⟩; have ms := m_swap ⟨vb, 0, none⟩ v w2 (by rw [((HQ'.out.gb g1).gb g2).var.cells]; rfl))
              | (go_at_call 35; refine (swapQ ((HQ'.out.gb g1).gb g2) i j1 (by omega) (by omega) (by omega)).mono ?_; rintro e w3 ⟨rfl, hq3, hc3⟩; have HQ3 : Hid (Q _ _ _ _ _ _ w3) := hq3; clear hq3))
            refine ⟨⟨j1, lsw L' i j1, rfl, by omega, (lsw_perm L' i j1 (by omega) (by omega)).trans hp, ?_, ?_, HQ3.out, ?_⟩, by simp [intOf]; omega⟩
            · intro k hk
              rw [lsw_at L' i j1 k (by omega) (by omega), if_neg (by omega), if_neg (by omega)]; exact HT.out k hk
            · rw [lsw_key key L' i j1 (by omega) (by omega)]
              have q1 := HJ1.out
              have q2 := HJ2.out
              refine down_step hd (by omega) (by omega) HL2.out (fun k hk hx => ?_)
              obtain hx | hx : k = j1 ∨ k = j2 := by omega
              · rw [hx]; exact Int.le_refl _
              · rw [hx]; exact HL1.out
            · refine ((hc.trans (Chg.none g1)).trans (Chg.none g2)).trans (hc3.weak ?_)
              rintro k - (h | h | h)
              · exact .inl h
              · exact .inr (.inl h)
              · exact .inr (.inr (hp.mem_iff.1 h))
          · have HL2 : Hid (key (L'.getD i 0) ≤ key (L'.getD j1 0)) := Int.not_lt.1 l2
            have D2 : decide (key (L'.getD j1 0) < key (L'.getD i 0)) = false := decide_eq_false l2
            have HD2 : Hid (decide (key (L'.getD j1 0) < key (L'.getD i 0)) = false) := D2
            clear l2 D2
            go_wp2_with (first
              | (go_at_call 34; refine hLess1.mono ?_; clear hLess1; rintro e w1 ⟨rfl, g1⟩; have ml1 := m_less ⟨vb, 0, none⟩ v w1 (by rw [(HQ'.out.gb g1).var.cells]; rfl))
              | (go_at_call 34; refine (lessQ (HQ'.out.gb g1) j1 i (by omega) (by omega) (by omega)).mono ?_; rw [HD2.out]; rintro e w2 ⟨rfl, g2⟩))
            go_ret
            refine ⟨_, rfl, L', hp, HT.out, down_done hd (fun k hk hx => ?_), (HQ'.out.gb g1).gb g2, (hc.trans (Chg.none g1)).trans (Chg.none g2)⟩
            have q1 := HJ1.out
            have q2 := HJ2.out
            have q3 := HL2.out
            obtain hx | hx : k = j1 ∨ k = j2 := by omega
            · refine Int.le_trans q3 ?_
              rw [hx]; exact Int.le_refl _
            · refine Int.le_trans q3 ?_
              rw [hx]; exact HL1.out
      · clear hj1 hj2
        by_cases l2 : key (L'.getD j1 0) < key (L'.getD i 0)
        · have HL2 : Hid (key (L'.getD j1 0) < key (L'.getD i 0)) := l2
          have D2 : decide (key (L'.getD j1 0) < key (L'.getD i 0)) = true := decide_eq_true l2
          have HD2 : Hid (decide (key (L'.getD j1 0) < key (L'.getD i 0)) = true) := D2
          clear l2 D2
          go_wp2_with (first
            | (go_at_call 34; refine (lessQ HQ'.out j1 i (by omega) (by omega) (by omega)).mono ?_; rw [HD2.out]; rintro e w2 ⟨rfl, g2⟩; have ms := m_swap ⟨vb, 0, none⟩ v w2 (by rw [(HQ'.out.gb g2).var.cells]; rfl))
            | (go_at_call 35; refine (swapQ (HQ'.out.gb g2) i j1 (by omega) (by omega) (by omega)).mono ?_; rintro e w3 ⟨rfl, hq3, hc3⟩; have HQ3 : Hid (Q _ _ _ _ _ _ w3) := hq3; clear hq3))
          refine ⟨⟨j1, lsw L' i j1, rfl, by omega, (lsw_perm L' i j1 (by omega) (by omega)).trans hp, ?_, ?_, HQ3.out, ?_⟩, by simp [intOf]; omega⟩
          · intro k hk
            rw [lsw_at L' i j1 k (by omega) (by omega), if_neg (by omega), if_neg (by omega)]; exact HT.out k hk
          · rw [lsw_key key L' i j1 (by omega) (by omega)]
            have q1 := HJ1.out
            have q2 := HJ2.out
            refine down_step hd (by omega) (by omega) HL2.out (fun k hk hx => ?_)
            obtain hx | hx : k = j1 ∨ k = j2 := by omega
            · rw [hx]; exact Int.le_refl _
            · exact absurd hk (by omega)
          · refine (hc.trans (Chg.none g2)).trans (hc3.weak ?_)
            rintro k - (h | h | h)
            · exact .inl h
            · exact .inr (.inl h)
            · exact .inr (.inr (hp.mem_iff.1 h))
        · have HL2 : Hid (key (L'.getD i 0) ≤ key (L'.getD j1 0)) := Int.not_lt.1 l2
          have D2 : decide (key (L'.getD j1 0) < key (L'.getD i 0)) = false := decide_eq_false l2
          have HD2 : Hid (decide (key (L'.getD j1 0) < key (L'.getD i 0)) = false) := D2
          clear l2 D2
          go_wp2_with (first
            | (go_at_call 34; refine (lessQ HQ'.out j1 i (by omega) (by omega) (by omega)).mono ?_; rw [HD2.out]; rintro e w2 ⟨rfl, g2⟩))
          go_ret
          refine ⟨_, rfl, L', hp, HT.out, down_done hd (fun k hk hx => ?_), HQ'.out.gb g2, hc.trans (Chg.none g2)⟩
          have q1 := HJ1.out
          have q2 := HJ2.out
          have q3 := HL2.out
          obtain hx | hx : k = j1 ∨ k = j2 := by omega
          · refine Int.le_trans q3 ?_
            rw [hx]; exact Int.le_refl _
          · exact absurd hk (by omega)
    · clear hj1 hj2
      go_wp2_with fail
      go_ret
      refine ⟨_, rfl, L', hp, HT.out, down_done hd (fun k hk hx => ?_), HQ'.out, hc⟩
      have := HJ1.out; omega
end Go.Proofs.Ybulkzk
