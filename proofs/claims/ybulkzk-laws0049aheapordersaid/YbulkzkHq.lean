import Derived.Test.YbulkzkPu
import Derived.Test.YbulkzkUp
import Derived.Test.YbulkzkDown
namespace Go.Proofs.Ybulkzk
open Go.RowKit
set_option linter.all false

theorem lenQ {id key : Nat → Int} {B vb : Nat} {v : Value} {L : List Nat} {w : World} (h : Q id key B vb v L w) :
    Calls Yba.prog 33 #[v] w fun e w' => e = .returned (.int .i64 L.length) ∧ w' = w := by
  obtain ⟨a, cap, rfl⟩ := own_shape h.row
  exact len_any a _ cap w

theorem take_getD (L : List Nat) (n k : Nat) (h : k < n) : (L.take n).getD k 0 = L.getD k 0 := by
  simp [List.getD, List.getElem?_take, h]
theorem split_last (L : List Nat) (h : 0 < L.length) : L = L.take (L.length - 1) ++ [L.getD (L.length - 1) 0] := by
  have h1 := (List.take_append_drop (L.length - 1) L).symm
  have h2 : L.drop (L.length - 1) = [L.getD (L.length - 1) 0] := by
    rw [List.drop_eq_getElem_cons (by omega)]
    rw [List.drop_eq_nil_of_le (by omega)]
    simp [List.getD, show L.length - 1 < L.length by omega]
  rw [h2] at h1; exact h1

theorem popQ {id key : Nat → Int} {B vb : Nat} {v : Value} {L : List Nat} {w : World} (h : Q id key B vb v L w) (hn : 0 < L.length) (hn2 : L.length ≤ 1024) :
    Calls Yba.prog 5 #[.pointer (some ⟨vb, 0, none⟩)] w fun e w' => e = .returned (.iface 25 (.pointer (some ⟨L.getD (L.length - 1) 0, 0, none⟩))) ∧
      ∃ v', v'.ownBlock = v.ownBlock ∧ Q id key B vb v' (L.take (L.length - 1)) w' ∧ BlkIs w' (L.getD (L.length - 1) 0) (entc (id (L.getD (L.length - 1) 0)) (key (L.getD (L.length - 1) 0)) (-1)) 35 ∧ Chg (QB vb v L) w w' := by
  obtain ⟨qb, cap, arr, rfl, hb, hq, h1, h2, h3, h4, h5, h6⟩ := h.open hn
  have hm := getD_mem (L := L) (i := L.length - 1) (by omega)
  obtain ⟨x, hx⟩ := h.ents _ hm
  refine (popc L.length qb vb _ arr _ _ x w hn hn2 cap h1 h.var hq h3 (h4 _ (by omega)) hx h5 (h6 _ hm).1 (h6 _ hm).2).mono ?_
  rintro e w' ⟨rfl, hc, hv', hq', he'⟩
  have hsub : ∀ e, e ∈ L.take (L.length - 1) → e ∈ L := fun e he => List.mem_of_mem_take he
  have hl : (L.take (L.length - 1)).length = L.length - 1 := by simp
  have hlast : L.getD (L.length - 1) 0 ∉ L.take (L.length - 1) := by
    have hnd := h.nodup
    rw [split_last L hn] at hnd
    have := (List.nodup_append.1 hnd).2.2
    intro hm'
    exact this _ hm' _ (List.mem_singleton.2 rfl) rfl
  have key' := fun (hv : BlkIs w' vb #[.slice (some ⟨qb, 0, none⟩) (L.take (L.length - 1)).length cap] 24) h4' hE => Q.shut (id := id) (key := key) (B := B) (vb := vb) (L := L.take (L.length - 1)) hv hb hq' (by rw [hl]; omega) h2 (by simp [h3]) h4' h5 (fun e he => h6 e (hsub e he)) hE (h.nodup.sublist (List.take_sublist _ _))
  rw [hl] at key'
  refine ⟨rfl, .slice (some ⟨qb, 0, none⟩) (L.length - 1) cap, rfl, key' hv' ?_ ?_, he', hc.weak ?_⟩
  · intro i hi
    rw [take_getD _ _ _ hi, Array.getElem?_setIfInBounds, if_neg (by omega)]
    exact h4 i (by omega)
  · intro e he
    obtain ⟨x', hx'⟩ := h.ents e (hsub e he)
    refine ⟨x', hx'.chg hc ?_⟩
    rintro (e' | e' | e')
    · exact (h6 e (hsub e he)).1 e'
    · exact (h6 e (hsub e he)).2 e'
    · rw [e'] at he; exact hlast he
  · rintro k - (rfl | rfl | rfl)
    · exact .inl rfl
    · exact .inr (.inl rfl)
    · exact .inr (.inr hm)

end Go.Proofs.Ybulkzk
