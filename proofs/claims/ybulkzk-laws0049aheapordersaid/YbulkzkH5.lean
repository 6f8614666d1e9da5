import Derived.Test.YbulkzkH4
import Derived.Test.YbulkzkPl
namespace Go.Proofs.Ybulkzk
open Go.RowKit
set_option linter.all false

theorem m_len (a : Addr) (v : Value) (w : World) (h : w.cell? a = some v) : (method 202 43 (.pointer (some a)) "Len").run Yba.prog w = .ok (33, v) w := by
  have : (method 202 43 (.pointer (some a)) "Len").run Yba.prog w = (do let v ← loadVar 24 a; pure (33, v) : Sem _).run Yba.prog w := by kernel_rfl
  rw [this]
  simp [go_sem, h]
theorem m_less (a : Addr) (v : Value) (w : World) (h : w.cell? a = some v) : (method 202 43 (.pointer (some a)) "Less").run Yba.prog w = .ok (34, v) w := by
  have : (method 202 43 (.pointer (some a)) "Less").run Yba.prog w = (do let v ← loadVar 24 a; pure (34, v) : Sem _).run Yba.prog w := by kernel_rfl
  rw [this]
  simp [go_sem, h]
theorem m_swap (a : Addr) (v : Value) (w : World) (h : w.cell? a = some v) : (method 202 43 (.pointer (some a)) "Swap").run Yba.prog w = .ok (35, v) w := by
  have : (method 202 43 (.pointer (some a)) "Swap").run Yba.prog w = (do let v ← loadVar 24 a; pure (35, v) : Sem _).run Yba.prog w := by kernel_rfl
  rw [this]
  simp [go_sem, h]
theorem m_push (a : Addr) (w : World) : (method 202 43 (.pointer (some a)) "Push").run Yba.prog w = .ok (44, .pointer (some a)) w := by kernel_rfl
theorem m_pop (a : Addr) (w : World) : (method 202 43 (.pointer (some a)) "Pop").run Yba.prog w = .ok (5, .pointer (some a)) w := by kernel_rfl

def eptr (e : Nat) : Value := .pointer (some ⟨e, 0, none⟩)
/-- The queue: its variable's block vb holds the slice v, whose elements are the entries L; the entry in block e has the number id e and the time key e. -/
structure Q (id key : Nat → Int) (B vb : Nat) (v : Value) (L : List Nat) (w : World) : Prop where
  var : BlkIs w vb #[v] 24
  row : w.ownsRow B 25 1 v L.length (L.map eptr)
  ents : ∀ e ∈ L, ∃ x, BlkIs w e (entc (id e) (key e) x) 35
  nodup : L.Nodup
  d1 : v.ownBlock ≠ some vb
  d2 : ∀ e ∈ L, e ≠ vb ∧ v.ownBlock ≠ some e

/-- What the row is, where it has elements. -/
theorem Q.open {id key : Nat → Int} {B vb : Nat} {v : Value} {L : List Nat} {w : World} (h : Q id key B vb v L w) (hn : 0 < L.length) :
    ∃ qb cap arr, v = .slice (some ⟨qb, 0, none⟩) L.length cap ∧ B ≤ qb ∧ BlkIs w qb arr 25 ∧ L.length ≤ cap ∧ cap ≤ maxLen ∧ arr.size = cap ∧ (∀ i, i < L.length → arr[i]? = some (eptr (L.getD i 0))) ∧ qb ≠ vb ∧ (∀ e ∈ L, e ≠ vb ∧ e ≠ qb) := by
  rcases h.row.2 with ⟨_, h0⟩ | ⟨g, cap, cur, hv, hb, hg, h1, h2, h3, h4⟩
  · omega
  · have hob : v.ownBlock = some g := by rw [hv]; rfl
    refine ⟨g, cap, cur, hv, hb, hg, h1, h2, by omega, ?_, ?_, ?_⟩
    · intro i hi
      have e1 : (cur.toList.take (L.length * 1))[i]? = some (eptr (L.getD i 0)) := by
        rw [h4]; simp [hi, List.getD]
      rw [List.getElem?_take, if_pos (by omega)] at e1
      simpa using e1
    · intro e; exact h.d1 (by rw [hob, e])
    · intro e he
      exact ⟨(h.d2 e he).1, fun e' => (h.d2 e he).2 (by rw [hob, e'])⟩
theorem Q.shut {id key : Nat → Int} {B vb : Nat} {L : List Nat} {w : World} {qb cap : Nat} {arr : Array Value} (hv : BlkIs w vb #[.slice (some ⟨qb, 0, none⟩) L.length cap] 24) (hb : B ≤ qb) (hq : BlkIs w qb arr 25) (h1 : L.length ≤ cap) (h2 : cap ≤ maxLen) (h3 : arr.size = cap)
    (h4 : ∀ i, i < L.length → arr[i]? = some (eptr (L.getD i 0))) (h5 : qb ≠ vb) (h6 : ∀ e ∈ L, e ≠ vb ∧ e ≠ qb) (he : ∀ e ∈ L, ∃ x, BlkIs w e (entc (id e) (key e) x) 35) (hnd : L.Nodup) :
    Q id key B vb (.slice (some ⟨qb, 0, none⟩) L.length cap) L w := by
  refine ⟨hv, ⟨by simp, .inr ⟨qb, cap, arr, rfl, hb, hq, h1, h2, by omega, ?_⟩⟩, he, hnd, ?_, ?_⟩
  · apply List.ext_getElem?
    intro i
    rw [List.getElem?_take]
    by_cases hi : i < L.length
    · rw [if_pos (by omega)]
      have := h4 i hi
      simp [hi, List.getD] at this ⊢
      exact this
    · rw [if_neg (by omega)]
      simp [hi]
  · intro e; exact h5 (Option.some.inj e)
  · intro e hm; exact ⟨(h6 e hm).1, fun e' => (h6 e hm).2 (Option.some.inj e').symm⟩
theorem getD_mem {L : List Nat} {i : Nat} (h : i < L.length) : L.getD i 0 ∈ L := by simp [List.getD, h]
theorem Q.gb {id key : Nat → Int} {B vb : Nat} {v : Value} {L : List Nat} {w w' : World} (h : Q id key B vb v L w) (g : w.grownBy w' none) : Q id key B vb v L w' := by
  refine ⟨h.var.gbn g, ⟨h.row.1, ?_⟩, fun e he => by obtain ⟨x, hx⟩ := h.ents e he; exact ⟨x, hx.gbn g⟩, h.nodup, h.d1, h.d2⟩
  rcases h.row.2 with h0 | ⟨q, cap, cur, hv, hb, hg, h1⟩
  · exact .inl h0
  · exact .inr ⟨q, cap, cur, hv, hb, BlkIs.gbn hg g, h1⟩
/-- The blocks that the queue's methods write. -/
def QB (vb : Nat) (v : Value) (L : List Nat) (k : Nat) : Prop := k = vb ∨ v.ownBlock = some k ∨ k ∈ L

theorem lessQ {id key : Nat → Int} {B vb : Nat} {v : Value} {L : List Nat} {w : World} (h : Q id key B vb v L w) (i j : Nat) (hi : i < L.length) (hj : j < L.length) (hn : L.length ≤ 1024) :
    Calls Yba.prog 34 #[v, .int .i64 i, .int .i64 j] w fun e w' => e = .returned (.bool (decide (key (L.getD i 0) < key (L.getD j 0)))) ∧ w.grownBy w' none := by
  obtain ⟨qb, cap, arr, rfl, hb, hq, h1, h2, h3, h4, h5, h6⟩ := h.open (by omega)
  obtain ⟨xi, ei⟩ := h.ents _ (getD_mem hi)
  obtain ⟨xj, ej⟩ := h.ents _ (getD_mem hj)
  exact less_any qb L.length cap i j _ _ _ _ w hi hj hn ⟨by rw [hq.cells]; exact h4 i hi, by rw [hq.cells]; exact h4 j hj, by rw [ei.cells]; rfl, by rw [ei.cells]; rfl, by rw [ei.cells]; rfl, by rw [ej.cells]; rfl, by rw [ej.cells]; rfl, by rw [ej.cells]; rfl⟩

theorem getD_inj {L : List Nat} (h : L.Nodup) {i j : Nat} (hi : i < L.length) (hj : j < L.length) (e : L.getD i 0 = L.getD j 0) : i = j := by
  simp [List.getD, hi, hj] at e
  have hp := List.pairwise_iff_getElem.1 h
  rcases Nat.lt_trichotomy i j with k | k | k
  · exact absurd e (hp i j hi hj k)
  · exact k
  · exact absurd e.symm (hp j i hj hi k)

theorem swapQ {id key : Nat → Int} {B vb : Nat} {v : Value} {L : List Nat} {w : World} (h : Q id key B vb v L w) (i j : Nat) (hi : i < L.length) (hj : j < L.length) (hn : L.length ≤ 1024) :
    Calls Yba.prog 35 #[v, .int .i64 i, .int .i64 j] w fun e w' => e = .returned (.tuple #[]) ∧ Q id key B vb v (lsw L i j) w' ∧ Chg (QB vb v L) w w' := by
  obtain ⟨qb, cap, arr, rfl, hb, hq, h1, h2, h3, h4, h5, h6⟩ := h.open (by omega)
  obtain ⟨xi, ei⟩ := h.ents _ (getD_mem hi)
  obtain ⟨xj, ej⟩ := h.ents _ (getD_mem hj)
  have hvar := h.var
  have hents := h.ents
  have hmem : ∀ e, e ∈ lsw L i j ↔ e ∈ L := fun e => (lsw_perm L i j hi hj).mem_iff
  by_cases hij : i = j
  · subst hij
    refine (swap_eq qb L.length cap i _ arr _ _ xi w hi hn (h6 _ (getD_mem hi)).2.symm hq (h4 i hi) ei).mono ?_
    rintro e w' ⟨rfl, hc, hq', he'⟩
    have el : lsw L i i = L := by
      apply List.ext_getElem?
      intro k
      simp only [lsw, List.getElem?_set, List.length_set]
      by_cases e : i = k
      · subst e; simp [hi, List.getD]
      · simp [e]
    rw [el]
    refine ⟨rfl, Q.shut (hvar.chg hc ?_) hb hq' h1 h2 h3 h4 h5 h6 ?_ h.nodup, hc.weak ?_⟩
    · rintro (e | e)
      · exact h5 e.symm
      · exact (h6 _ (getD_mem hi)).1 e.symm
    · intro e hm
      by_cases ee : e = L.getD i 0
      · subst ee; exact ⟨_, he'⟩
      · obtain ⟨x, hx⟩ := hents e hm
        refine ⟨x, hx.chg hc ?_⟩
        rintro (e1 | e1)
        · exact (h6 e hm).2 e1
        · exact ee e1
    · rintro k - (rfl | rfl)
      · exact .inr (.inl rfl)
      · exact .inr (.inr (getD_mem hi))
  · have hne : L.getD i 0 ≠ L.getD j 0 := fun e => hij (getD_inj h.nodup hi hj e)
    refine (swap_ne qb L.length cap i j _ _ arr _ _ _ _ xi xj w hi hj hn hij (h6 _ (getD_mem hi)).2.symm (h6 _ (getD_mem hj)).2.symm hne hq (h4 i hi) (h4 j hj) ei ej).mono ?_
    rintro e w' ⟨rfl, hc, hq', hei', hej'⟩
    have key := fun (hv : BlkIs w' vb #[.slice (some ⟨qb, 0, none⟩) (lsw L i j).length cap] 24) h4' h6' hE hN => Q.shut (id := id) (key := key) (B := B) (vb := vb) (L := lsw L i j) hv hb hq' (by rw [lsw_length]; exact h1) h2 (by simp [h3]) h4' h5 h6' hE hN
    rw [lsw_length] at key
    refine ⟨rfl, key (hvar.chg hc ?_) ?_ (fun e hm => h6 e ((hmem e).1 hm)) ?_ ((lsw_perm L i j hi hj).nodup_iff.2 h.nodup), hc.weak ?_⟩
    · rintro (e | e | e)
      · exact h5 e.symm
      · exact (h6 _ (getD_mem hi)).1 e.symm
      · exact (h6 _ (getD_mem hj)).1 e.symm
    · intro k hk
      rw [lsw_at L i j k hi hj]
      simp only [Array.getElem?_setIfInBounds, Array.size_setIfInBounds]
      by_cases kj : k = j
      · subst kj
        rw [if_pos rfl, if_pos (by omega), if_neg (fun e => hij e.symm), if_pos rfl]; rfl
      · rw [if_neg (fun e => kj e.symm)]
        by_cases ki : k = i
        · subst ki
          rw [if_pos rfl, if_pos (by omega), if_pos rfl]; rfl
        · rw [if_neg (fun e => ki e.symm), if_neg ki, if_neg kj]; exact h4 k hk
    · intro e hm
      have hm' := (hmem e).1 hm
      by_cases e1 : e = L.getD i 0
      · subst e1; exact ⟨_, hei'⟩
      · by_cases e2 : e = L.getD j 0
        · subst e2; exact ⟨_, hej'⟩
        · obtain ⟨x, hx⟩ := hents e hm'
          refine ⟨x, hx.chg hc ?_⟩
          rintro (e' | e' | e')
          · exact (h6 e hm').2 e'
          · exact e1 e'
          · exact e2 e'
    · rintro k - (rfl | rfl | rfl)
      · exact .inr (.inl rfl)
      · exact .inr (.inr (getD_mem hi))
      · exact .inr (.inr (getD_mem hj))
end Go.Proofs.Ybulkzk
