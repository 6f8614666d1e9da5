import Derived.Test.YbulkzkH5
namespace Go.Proofs.Ybulkzk
open Go.RowKit
set_option linter.all false

theorem own_gb {w w' : World} {B : Nat} {e : TypeId} {s n : Nat} {v : Value} {xs : List Value} {r : Option Nat} (h : w.ownsRow B e s v n xs) (g : w.grownBy w' r) (hne : ∀ k, v.ownBlock = some k → some k ≠ r) : w'.ownsRow B e s v n xs := by
  refine ⟨h.1, ?_⟩
  rcases h.2 with h0 | ⟨q, cap, cur, hv, hb, hg, h1⟩
  · exact .inl h0
  · exact .inr ⟨q, cap, cur, hv, hb, BlkIs.gb hg g (hne q (by rw [hv]; rfl)), h1⟩
theorem own_shape {w : World} {B : Nat} {e : TypeId} {s n : Nat} {v : Value} {xs : List Value} (h : w.ownsRow B e s v n xs) : ∃ a cap, v = .slice a n cap := by
  rcases h.2 with ⟨rfl, rfl⟩ | ⟨q, cap, cur, hv, _⟩
  · exact ⟨_, _, rfl⟩
  · exact ⟨_, _, hv⟩
theorem own_lt {w : World} {B : Nat} {e : TypeId} {s n : Nat} {v : Value} {xs : List Value} (h : w.ownsRow B e s v n xs) {k : Nat} (hk : v.ownBlock = some k) : k < w.heap.size := by
  rcases h.2 with ⟨rfl, rfl⟩ | ⟨q, cap, cur, hv, hb, hg, h1⟩
  · cases hk
  · rw [hv] at hk
    cases hk
    exact BlkIs.lt hg
theorem ta2 (a : Addr) (w : World) : (Instr.typeAssert (.iface 25 (.pointer (some a))) 20 25 false).run Yba.prog w = .ok (.pointer (some a)) w := by kernel_rfl
theorem info_parts {P : Program} {t : TypeId} {z : Value} {s b : Nat} (h : (P.info? t).map (fun i => (i.zero, i.size, i.bytes)) = some (some z, s, b)) : ∃ i, P.info? t = some i ∧ i.zero = some z ∧ i.size = s ∧ i.bytes = b := by
  cases hq : P.info? t with
  | none => simp [hq] at h
  | some i => simp [hq] at h; exact ⟨i, rfl, h.1, h.2.1, h.2.2⟩

set_option maxHeartbeats 2000000 in
theorem pushQ {id key : Nat → Int} {B vb : Nat} {v : Value} {L : List Nat} {w : World} (h : Q id key B vb v L w) (hn : L.length < 1024) (hB : B ≤ w.heap.size) (eb : Nat) (x : Int) (he : BlkIs w eb (entc (id eb) (key eb) x) 35) (hd1 : eb ≠ vb) (hd2 : v.ownBlock ≠ some eb) (hd3 : eb ∉ L) :
    Calls Yba.prog 44 #[.pointer (some ⟨vb, 0, none⟩), .iface 25 (.pointer (some ⟨eb, 0, none⟩))] w fun e w' => e = .returned (.tuple #[]) ∧
      ∃ v', Q id key B vb v' (L ++ [eb]) w' ∧ (v'.ownBlock = v.ownBlock ∨ ∃ g, v'.ownBlock = some g ∧ w.heap.size ≤ g) ∧ Chg (QB vb v (L ++ [eb])) w w' := by
  obtain ⟨i0, hi, hz0, hz1, hz2⟩ := info_parts Yba.info25
  obtain ⟨N, hN⟩ : ∃ N, N = L.length := ⟨_, rfl⟩
  have hrow := h.row
  rw [← hN] at hn hrow
  obtain ⟨a, cap, rfl⟩ := own_shape hrow
  have cv : w.cell? ⟨vb, 0, none⟩ = some (.slice a N cap) := by rw [h.var.cells]; rfl
  have fv : w.frozen? ⟨vb, 0, none⟩ = false := frozen_of_row _ _ _ _ _ h.var
  have ce : w.cell? ⟨eb, 8, none⟩ = some (.int .i64 x) := by rw [he.cells]; rfl
  have fe : w.frozen? ⟨eb, 8, none⟩ = false := frozen_of_row _ _ _ _ _ he
  have hta := ta2 ⟨eb, 0, none⟩
  have lv := h.var.lt
  have HN : Hid (N = L.length) := hN
  have HQ : Hid (Q _ _ _ _ _ _ w) := h
  have HE : Hid (BlkIs w eb _ _) := he
  have HR : Hid (w.ownsRow _ _ _ _ _ _) := hrow
  have HD2 : Hid (Value.ownBlock (.slice a N cap) ≠ some eb) := hd2
  clear h he hrow hN hd2
  go_enter Yba.func44, Yba.ntmps44
  go_wp2_with (at_builtin; refine wpList_append_lies _ rfl _ _ _ rfl B 25 i0 _ 1 8 Yba.underlying24 hi hz0 hz1 hz2 rfl (by omega) (.slice a N cap) N _ (by rfl) (by exact (own_gb HR.out (gb_setCell _ _ _) (fun k hk e => by cases e; exact HD2.out hk)).alloc _) ⟨w.heap.size, 0, none⟩ 1 1 [.pointer (some ⟨eb, 0, none⟩)] (by rfl) (by rfl) (by exact World.news_of_block (BlkIs.newAt (by simp) _ _)) (by simp [Value.oneCell']) (by omega) (by unfold maxLen; omega) (by omega) (by simp; omega) (w.heap.size + 1) (by simp) ?_; intro g cap1 w1 hown1 hgrow hat1 hlt1; have HV1 : Hid (BlkIs w1 vb #[.slice a N cap] 24) := BlkIs.gb ((HQ.out.var.setOther _ hd1.symm).alloc _) hgrow (fun e => HQ.out.d1 e.symm); have cv1 : w1.cell? ⟨vb, 0, none⟩ = some (.slice a N cap) := (by rw [HV1.out.cells]; rfl); have fv1 : w1.frozen? ⟨vb, 0, none⟩ = false := frozen_of_row _ _ _ _ _ HV1.out; have HO1 : Hid (w1.ownsRow _ _ _ _ _ _) := hown1; have HG1 : Hid (World.grownBy _ w1 _) := hgrow; clear hown1 hgrow)
  have hq := HQ.out
  have hown1 := HO1.out
  have g1 := HG1.out
  have hge := HE.out.lt
  have hgv : g ≠ vb := by
    rcases hat1 with e | e
    · intro e'; exact hq.d1 (by rw [e, e'])
    · omega
  have hgm : ∀ e ∈ L ++ [eb], e ≠ vb ∧ e ≠ g := by
    intro e he
    rcases List.mem_append.1 he with he | he
    · refine ⟨(hq.d2 e he).1, ?_⟩
      obtain ⟨x', hx'⟩ := hq.ents e he
      have := hx'.lt
      rcases hat1 with e1 | e1
      · intro e'; exact (hq.d2 e he).2 (by rw [e1, e'])
      · omega
    · obtain rfl := List.mem_singleton.1 he
      refine ⟨hd1, ?_⟩
      rcases hat1 with e1 | e1
      · intro e'; exact HD2.out (by rw [e1, e'])
      · omega
  refine bodyPost_end (results_none rfl _ _ _) rfl ⟨rfl, .slice (some ⟨g, 0, none⟩) (N + 1) cap1, ⟨?_, ?_, ?_, ?_, ?_, ?_⟩, ?_, ?_⟩
  · exact HV1.out.set (j := 0) _
  · have := own_gb hown1 (gb_setCell w1 ⟨vb, 0, none⟩ (.slice (some ⟨g, 0, none⟩) (N + 1) cap1)) (fun k hk e => hgv (by cases hk; cases e; rfl))
    rw [List.map_append, List.length_append, ← HN.out]
    exact this
  · intro e he
    have hev := (hgm e he).1
    by_cases ee : e = eb
    · subst ee
      refine ⟨N, ?_⟩
      have h1 : BlkIs _ e (entc (id e) (key e) N) 35 := (HE.out.set (j := 8) (.int .i64 N)).alloc (Obj.cells #[Value.pointer (some { block := e, off := 0 })] 25)
      exact (BlkIs.gb h1 g1 (fun e' => HD2.out e'.symm)).setOther _ hev
    · have he' : e ∈ L := by
        rcases List.mem_append.1 he with he | he
        · exact he
        · exact absurd (List.mem_singleton.1 he) ee
      obtain ⟨x', hx'⟩ := hq.ents e he'
      exact ⟨x', (BlkIs.gb ((hx'.setOther _ ee).alloc _) g1 (fun e' => (hq.d2 e he').2 e'.symm)).setOther _ hev⟩
  · refine List.nodup_append.2 ⟨hq.nodup, by simp, fun a ha b hb => ?_⟩
    obtain rfl := List.mem_singleton.1 hb
    intro e; subst e; exact hd3 ha
  · intro e; exact hgv (Option.some.inj e)
  · intro e he; exact ⟨(hgm e he).1, fun e' => (hgm e he).2 (Option.some.inj e').symm⟩
  · rcases hat1 with e | e
    · exact .inl e.symm
    · exact .inr ⟨g, rfl, by omega⟩
  · refine ((((Chg.refl _ w).set _ _ (.inr (.inr (by simp)))).trans (Chg.none (World.grownBy_alloc _ _ _))).trans (Chg.of g1 (fun k hk => .inr (.inl hk)))).set _ _ (.inl rfl)
end Go.Proofs.Ybulkzk
