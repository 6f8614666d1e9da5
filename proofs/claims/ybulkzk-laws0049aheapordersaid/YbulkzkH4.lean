import Derived.Test.YbulkzkH3
namespace Go.Proofs.Ybulkzk
open Go.RowKit
set_option linter.all false

theorem setSame {α : Type} (arr : Array α) (i : Nat) (v : α) (h : arr[i]? = some v) : arr.setIfInBounds i v = arr := by
  apply Array.ext_getElem?
  intro k
  rw [Array.getElem?_setIfInBounds]
  by_cases e : i = k
  · subst e
    obtain ⟨hl, hv⟩ := Array.getElem?_eq_some_iff.1 h
    simp [hl, hv]
  · rw [if_neg e]

set_option maxRecDepth 100000 in
set_option maxHeartbeats 2000000 in
theorem swap_eq (qb n cap i ei : Nat) (arr : Array Value) (idi zi xi : Int) (w : World) (hi : i < n) (hn : n ≤ 1024) (h1 : qb ≠ ei)
    (hq : BlkIs w qb arr 25) (ai : arr[i]? = some (.pointer (some ⟨ei, 0, none⟩)))
    (hei : BlkIs w ei (entc idi zi xi) 35) :
    Calls Yba.prog 35 #[.slice (some ⟨qb, 0, none⟩) n cap, .int .i64 i, .int .i64 i] w fun e w' => e = .returned (.tuple #[]) ∧
      Chg (fun k => k = qb ∨ k = ei) w w' ∧ BlkIs w' qb arr 25 ∧
      BlkIs w' ei (entc idi zi i) 35 := by
  have ci : w.cell? ⟨qb, i, none⟩ = some (.pointer (some ⟨ei, 0, none⟩)) := by rw [hq.cells]; exact ai
  have fi : w.frozen? ⟨qb, i, none⟩ = false := frozen_of_row _ _ _ _ _ hq
  have ki : w.cell? ⟨ei, 8, none⟩ = some (.int .i64 xi) := by rw [hei.cells]; rfl
  have gi : w.frozen? ⟨ei, 8, none⟩ = false := frozen_of_row _ _ _ _ _ hei
  have HQ : Hid (BlkIs _ _ _ _) := hq
  have HI : Hid (BlkIs _ _ _ _) := hei
  have HA : Hid (arr[i]? = _) := ai
  clear hq hei ai
  go_enter Yba.func35, Yba.ntmps35
  go_wp2_with fail
  go_region
  go_wp2_with fail
  go_region
  go_wp2_with fail
  refine bodyPost_end (results_none rfl _ _ _) rfl ⟨rfl, ?_, ?_, ?_⟩
  · exact (((((Chg.refl _ w).set _ _ (.inl rfl)).set _ _ (.inl rfl)).set _ _ (.inr rfl)).set _ _ (.inr rfl)).drew.drew
  · have := ((((HQ.out).set (j := i) (.pointer (some ⟨ei, 0, none⟩))).set (j := i) (.pointer (some ⟨ei, 0, none⟩))).setOther (j := 8) (.int .i64 i) h1).setOther (j := 8) (.int .i64 i) h1
    rw [setSame _ _ _ HA.out, setSame _ _ _ HA.out] at this
    exact this
  · exact ((((HI.out).setOther _ h1.symm).setOther _ h1.symm).set (j := 8) _).set (j := 8) _

set_option maxRecDepth 100000 in
set_option maxHeartbeats 2000000 in
theorem popc (n qb vb eb : Nat) (arr : Array Value) (id z idx : Int) (w : World) (hn : 0 < n) (hn2 : n ≤ 1024) (cap : Nat) (hcap : n ≤ cap) (hv : BlkIs w vb #[.slice (some ⟨qb, 0, none⟩) n cap] 24)
    (hq : BlkIs w qb arr 25) (hs : arr.size = cap) (hl : arr[n - 1]? = some (.pointer (some ⟨eb, 0, none⟩))) (he : BlkIs w eb (entc id z idx) 35) (d1 : qb ≠ vb) (d2 : eb ≠ vb) (d3 : eb ≠ qb) :
    Calls Yba.prog 5 #[.pointer (some ⟨vb, 0, none⟩)] w fun e w' => e = .returned (.iface 25 (.pointer (some ⟨eb, 0, none⟩))) ∧
      Chg (fun k => k = vb ∨ k = qb ∨ k = eb) w w' ∧ BlkIs w' vb #[.slice (some ⟨qb, 0, none⟩) (n - 1) cap] 24 ∧ BlkIs w' qb (arr.setIfInBounds (n - 1) (.pointer none)) 25 ∧ BlkIs w' eb (entc id z (-1)) 35 := by
  have c1 := hv.cells
  have c2 : w.cell? ⟨qb, n - 1, none⟩ = some (.pointer (some ⟨eb, 0, none⟩)) := by rw [hq.cells]; exact hl
  have e1 : ((n : Int) - 1) = ((n - 1 : Nat) : Int) := by omega
  have f1 : w.frozen? ⟨qb, n - 1, none⟩ = false := frozen_of_row _ _ _ _ _ hq
  have c3 : w.cell? ⟨eb, 8, none⟩ = some (.int .i64 idx) := by rw [he.cells]; rfl
  have f2 : w.frozen? ⟨eb, 8, none⟩ = false := frozen_of_row _ _ _ _ _ he
  have f3 : w.frozen? ⟨vb, 0, none⟩ = false := frozen_of_row _ _ _ _ _ hv
  have q0 : (0 : Int) ≤ ((n - 1 : Nat) : Int) := Int.natCast_nonneg _
  have q1 : ((n - 1 : Nat) : Int) ≤ (cap : Int) := by omega
  have HV : Hid (BlkIs _ _ _ _) := hv
  have HQ : Hid (BlkIs _ _ _ _) := hq
  have HE : Hid (BlkIs _ _ _ _) := he
  clear hv hq hs hl he
  go_enter Yba.func5, Yba.ntmps5
  go_wp2_with fail
  go_ret
  refine ⟨rfl, ?_, ?_, ?_, ?_⟩
  · exact (((Chg.refl _ w).set _ _ (.inr (.inl rfl))).set _ _ (.inr (.inr rfl))).set _ _ (.inl rfl)
  · exact (((HV.out).setOther _ d1.symm).setOther _ d2.symm).set (j := 0) _
  · exact (((HQ.out).set _).setOther _ d3.symm).setOther _ d1
  · exact (((HE.out).setOther _ d3).set (j := 8) _).setOther _ d2
end Go.Proofs.Ybulkzk
