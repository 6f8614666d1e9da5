import Derived.Test.YbulkzkHq
namespace Go.Proofs.Ybulkzk
open Go.RowKit
set_option linter.all false

theorem Chg.trans2 {S T : Nat → Prop} {a b c : World} (h : Chg S a b) (g : Chg T b c) (hst : ∀ k, k < a.heap.size → T k → S k) : Chg S a c :=
  ⟨g.1.trans h.1, g.2.1.trans h.2.1, g.2.2.1.trans h.2.2.1, Nat.le_trans h.2.2.2.1 g.2.2.2.1, fun k hk hs => (g.2.2.2.2 k (Nat.lt_of_lt_of_le hk h.2.2.2.1) (fun ht => hs (hst k hk ht))).trans (h.2.2.2.2 k hk hs)⟩

set_option maxHeartbeats 2000000 in
theorem pushH {id key : Nat → Int} {B vb : Nat} {v : Value} {L : List Nat} {w : World} (h : Q id key B vb v L w) (hh : HeapTo (fun k => key (L.getD k 0)) L.length) (hn : L.length < 1024) (hB : B ≤ w.heap.size) (eb : Nat) (x : Int) (he : BlkIs w eb (entc (id eb) (key eb) x) 35) (hd1 : eb ≠ vb) (hd2 : v.ownBlock ≠ some eb) (hd3 : eb ∉ L) :
    Calls Yba.prog 7 #[.iface 43 (.pointer (some ⟨vb, 0, none⟩)), .iface 25 (.pointer (some ⟨eb, 0, none⟩))] w fun e w' => e = .returned (.tuple #[]) ∧
      ∃ v' L', L'.Perm (eb :: L) ∧ HeapTo (fun k => key (L'.getD k 0)) L'.length ∧ Q id key B vb v' L' w' ∧ (v'.ownBlock = v.ownBlock ∨ ∃ g, v'.ownBlock = some g ∧ w.heap.size ≤ g) ∧ Chg (QB vb v (L ++ [eb])) w w' := by
  obtain ⟨N, hN⟩ : ∃ N, N = L.length := ⟨_, rfl⟩
  have hl1 : (L ++ [eb]).length = N + 1 := by simp [hN]
  have hU : UpInv (fun k => key ((L ++ [eb]).getD k 0)) (N + 1) N := by
    rw [hN]
    refine up_start hh (fun k hk => ?_)
    simp only [List.getD, List.getElem?_append_left hk]
  have mp := m_push ⟨vb, 0, none⟩
  have hPush := pushQ h hn hB eb x he hd1 hd2 hd3
  have e1 : (N : Int) + 1 - 1 = (N : Int) := by omega
  have Nb : N < 1024 := by omega
  have HU : Hid (UpInv _ _ _) := hU
  have HN : Hid (N = L.length) := hN
  clear h hh hU hN hd1 hd2 hd3 he hn
  go_enter Yba.func7, Yba.ntmps7
  go_wp2_with (first
    | (go_at_call 44; refine hPush.mono ?_; clear hPush; rintro e w1 ⟨rfl, v1, hq1, hv1, hc1⟩; have ml := m_len ⟨vb, 0, none⟩ v1 w1 (by rw [hq1.var.cells]; rfl); have HQ1 : Hid (Q _ _ _ _ _ _ w1) := hq1; clear hq1)
    | (go_at_call 33; refine (lenQ HQ1.out).mono ?_; rw [hl1]; rintro e w2 ⟨rfl, rfl⟩)
    | (go_at_call 14; refine (up_any HQ1.out N (by rw [hl1]; omega) (by rw [hl1]; omega) (by rw [hl1]; exact HU.out)).mono ?_; rintro e w3 ⟨rfl, L3, hp3, hh3, hq3, hc3⟩; have HQ3 : Hid (Q _ _ _ _ _ _ w3) := hq3; clear hq3))
  refine bodyPost_end (results_none rfl _ _ _) rfl ⟨rfl, v1, L3, hp3.trans List.perm_append_comm, ?_, HQ3.out, hv1, ?_⟩
  · rw [hp3.length_eq]; exact hh3
  · refine hc1.trans2 hc3 ?_
    rintro k hk (h | h | h)
    · exact .inl h
    · rcases hv1 with e | ⟨g, e, hg⟩
      · rw [e] at h; exact .inr (.inl h)
      · rw [e] at h; cases h; omega
    · exact .inr (.inr h)
end Go.Proofs.Ybulkzk
