import Derived.Test.YbulkzkHq
namespace Go.Proofs.Ybulkzk
open Go.RowKit
set_option linter.all false
set_option maxHeartbeats 2000000 in
theorem popH {id key : Nat → Int} {B vb : Nat} {v : Value} {L : List Nat} {w : World} (h : Q id key B vb v L w) (hn : 0 < L.length) (hn2 : L.length ≤ 1024) (hh : HeapTo (fun k => key (L.getD k 0)) L.length) :
    Calls Yba.prog 8 #[.iface 43 (.pointer (some ⟨vb, 0, none⟩))] w fun e w' => ∃ eb v' R, e = .returned (.iface 25 (.pointer (some ⟨eb, 0, none⟩))) ∧ L.Perm (eb :: R) ∧ (∀ x ∈ L, key eb ≤ key x) ∧
      HeapTo (fun k => key (R.getD k 0)) R.length ∧ v'.ownBlock = v.ownBlock ∧ Q id key B vb v' R w' ∧ BlkIs w' eb (entc (id eb) (key eb) (-1)) 35 ∧ Chg (QB vb v L) w w' := by
  obtain ⟨N, hN⟩ : ∃ N, N = L.length := ⟨_, rfl⟩
  obtain ⟨m, hm⟩ : ∃ m, m = N - 1 := ⟨_, rfl⟩
  have e1 : (N : Int) - 1 = (m : Int) := by omega
  have ml := m_len ⟨vb, 0, none⟩ v w (by rw [h.var.cells]; rfl)
  have ms := m_swap ⟨vb, 0, none⟩ v w (by rw [h.var.cells]; rfl)
  have mp := m_pop ⟨vb, 0, none⟩
  have hLen := lenQ h
  have hSwap := swapQ h 0 m (by omega) (by omega) hn2
  rw [← hN] at hLen
  have hD : DownInv (fun k => key ((lsw L 0 m).getD k 0)) m 0 := by
    rw [lsw_key key L 0 m (by omega) (by omega)]
    have : m + 1 = L.length := by omega
    rw [← this] at hh
    exact down_start hh
  have hlm : (lsw L 0 m).length = L.length := lsw_length _ _ _
  have HQ : Hid (Q _ _ _ _ _ _ w) := h
  have HH : Hid (HeapTo _ _) := hh
  have HD : Hid (DownInv _ _ _) := hD
  have HN : Hid (N = L.length) := hN
  have HM : Hid (m = N - 1) := hm
  have mb : m < 1024 := by omega
  have Nb : N ≤ 1024 := by omega
  clear h hh hD hN hm
  go_enter Yba.func8, Yba.ntmps8
  go_wp2_with (first
    | (go_at_call 33; refine hLen.mono ?_; clear hLen; rintro e w1 ⟨rfl, rfl⟩)
    | (go_at_call 35; refine hSwap.mono ?_; clear hSwap; rintro e w2 ⟨rfl, hq2, hc2⟩; have HQ2 : Hid (Q _ _ _ _ _ _ w2) := hq2; clear hq2)
    | (go_at_call 15; refine (down_any HQ2.out m (by have := HM.out; have := HN.out; omega) (by omega) HD.out).mono ?_; rintro e w3 ⟨b, rfl, L3, hp3, ht3, hh3, hq3, hc3⟩; have HQ3 : Hid (Q _ _ _ _ _ _ w3) := hq3; have HT3 : Hid (∀ k, m ≤ k → _) := ht3; clear hq3 ht3)
    | (go_at_call 5; refine (popQ HQ3.out (by rw [hp3.length_eq, hlm]; exact hn) (by rw [hp3.length_eq, hlm]; exact hn2)).mono ?_; rintro e w4 ⟨rfl, v4, hv4, hq4, he4, hc4⟩; have HQ4 : Hid (Q _ _ _ _ _ _ w4) := hq4; have HE4 : Hid (BlkIs w4 _ _ _) := he4; clear hq4 he4))
  go_ret
  have q1 := HN.out
  have q2 := HM.out
  have p0 : L3.Perm L := hp3.trans (lsw_perm L 0 m (by omega) (by omega))
  have hl3 : L3.length = N := by rw [p0.length_eq, ← q1]
  have elast : L3.getD (L3.length - 1) 0 = L.getD 0 0 := by
    rw [hl3, ← q2, HT3.out m (Nat.le_refl _), lsw_at L 0 m m (by omega) (by omega)]
    by_cases hm0 : m = 0
    · rw [if_pos hm0, hm0]
    · rw [if_neg hm0, if_pos rfl]
  have HQ4' := HQ4.out
  have HE4' := HE4.out
  rw [elast] at HE4'
  refine ⟨L.getD 0 0, v4, L3.take (L3.length - 1), by rw [← elast]; rfl, ?_, ?_, ?_, hv4, HQ4', HE4', ?_⟩
  · have h1 := split_last L3 (by omega)
    rw [elast] at h1
    refine p0.symm.trans ?_
    refine (List.Perm.of_eq h1).trans ?_
    exact List.perm_append_comm
  · intro x hx
    obtain ⟨k, hk, rfl⟩ := List.getElem_of_mem hx
    have := heap_root HH.out k hk
    simpa [List.getD, hk] using this
  · have hl : (L3.take (L3.length - 1)).length = m := by simp; omega
    rw [hl]
    refine heap_less hh3 (fun k hk => ?_)
    show key ((L3.take (L3.length - 1)).getD k 0) = key (L3.getD k 0)
    rw [take_getD _ _ _ (by omega)]
  · have hw : ∀ {L1 : List Nat}, L1.Perm L → ∀ k, QB vb v L1 k → QB vb v L k := by
      rintro L1 hp k (h | h | h)
      · exact .inl h
      · exact .inr (.inl h)
      · exact .inr (.inr (hp.mem_iff.1 h))
    exact (hc2.trans (hc3.weak (fun k _ => hw (lsw_perm L 0 m (by omega) (by omega)) k))).trans (hc4.weak (fun k _ => hw p0 k))
end Go.Proofs.Ybulkzk
