import Derived.Test.YbulkxuDoorRows
import Derived.WalkKit
import Derived.OpenShut
import Derived.SliceStrings
import Derived.SizedLaws
/-! A slice of strings that came in. -/
namespace Go.Proofs.YbulkxuDoor
open Go.RowKit Go.ChangeShapes Go.WideShapes
set_option linter.all false

/-- What the walk is told of a slice of strings that came in: it is nil; or its elements are the strings ss, none beyond the form's reach. -/
def IsStrs (w : World) (a : Option Addr) (len cap : Nat) (ss : List ByteArray) : Prop :=
  (a = none ∧ len = 0 ∧ cap = 0) ∨
  ∃ x, a = some x ∧ len ≤ cap ∧ (∀ i, i < len → w.cell? (x.add i) = some (.string (ss.getD i ByteArray.empty))) ∧ ∀ i, i < len → (ss.getD i ByteArray.empty).size ≤ 140737488355328
theorem strs_at {w : World} {a : Addr} {n : Nat} {ss : List ByteArray} (h : ∀ i, i < n → w.cell? (a.add i) = some (.string (ss.getD i ByteArray.empty))) (hp : 0 < n) :
    ∃ b off, a = ⟨b, off, none⟩ ∧ ∀ j, j < n → w.cell? ⟨b, off + j, none⟩ = some (.string (ss.getD j ByteArray.empty)) := by
  obtain ⟨b, off, spot⟩ := a
  have hspot : spot = none := by simpa [Addr.add] using World.cell?_spot (h 0 hp)
  subst hspot
  exact ⟨b, off, rfl, fun j hj => by rw [← Go.WideShapes.add_plain]; exact h j hj⟩
theorem weights_strs {H : Type} (P : Program) (e : TypeId) : ∀ (ss : List ByteArray) (s : ByteArray), s ∈ ss → s.data.toList.length ∈ DataW.weightsAll P e (strs (H := H) ss)
  | [], s, h => by cases h
  | x :: r, s, h => by
    simp only [strs, List.map_cons, DataW.weightsAll, DataW.weights, List.mem_append]
    rcases List.mem_cons.1 h with rfl | h
    · exact Or.inl (by simp)
    · exact Or.inr (weights_strs P e r s h)
theorem strs_sized {H : Type} {P : Program} {ts : List TypeId} {ds : List (DataW H)} (h : (DataW.weightsEach P ts ds).all (· ≤ reachBytes) = true) {j : Nat} {t e : TypeId} {ss : List ByteArray} {spare : List (DataW H)}
    (ht : ts[j]? = some t) (hd : ds[j]? = some (.slice (strs ss) spare)) (hu : P.underlying t = some (.slice e)) : ∀ s ∈ ss, s.size ≤ 140737488355328 := by
  intro s hs
  have := List.all_eq_true.1 h _ (DataW.weights_mem_each ht hd s.data.toList.length (by simp only [DataW.weights, hu]; exact List.mem_cons_of_mem _ (List.mem_append_left _ (weights_strs P e ss s hs))))
  have h2 : s.data.toList.length ≤ reachBytes := of_decide_eq_true this
  have h3 := reachBytes_lt
  have h4 : s.size = s.data.toList.length := (Array.length_toList (xs := s.data)).symm
  rw [h4]
  generalize reachBytes = R at h2 h3
  omega
end Go.Proofs.YbulkxuDoor
