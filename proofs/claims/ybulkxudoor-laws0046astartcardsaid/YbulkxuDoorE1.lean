import Derived.Test.YbulkxuDoorA2
import Derived.Test.YbulkxuDoorW2A
import Derived.Test.YbulkxuDoorK
namespace Go.Proofs.YbulkxuDoor
open Go.RowKit
set_option linter.all false

theorem own_sl {w : World} {B e size : Nat} {v : Value} {n : Nat} {xs : List Value} (h : w.ownsRow B e size v n xs) : ∃ o c, v = .slice o n c := by
  rcases h.2 with ⟨rfl, rfl⟩ | ⟨g, cap, cur, rfl, _⟩
  · exact ⟨_, _, rfl⟩
  · exact ⟨_, _, rfl⟩

/-- 'toHalves' at acs's messages, the row's value written out. -/
theorem toHalvesA_sl (lo up : List Value) (hlo : lo.length = 18) (hup : up.length = 18) (olo : ∀ u ∈ lo, u.oneCell' = true) (oup : ∀ u ∈ up, u.oneCell' = true)
    (honest : Nat) (v : Value) (n : Nat) (xs : List Value) (B : Nat) (w : World) (hB : B ≤ w.heap.size) (hown : w.ownsRow B 53 19 v n xs) (hn : n + honest ≤ 10000000) :
    Calls Ybad.prog 15 #[v, .int .i64 honest, .agg lo.toArray, .agg up.toArray] w fun e w' => ∃ o c, e = .returned (.slice o (n + honest) c) ∧ w'.ownsRow B 53 19 (.slice o (n + honest) c) (n + honest) (xs ++ halves honest lo up honest) ∧ w.grownBy w' v.ownBlock ∧
      ((Value.slice o (n + honest) c).ownBlock = v.ownBlock ∨ ∃ g, (Value.slice o (n + honest) c).ownBlock = some g ∧ w.heap.size ≤ g) := by
  refine (toHalvesA_any lo up hlo hup olo oup honest v n xs B w hB hown hn).mono ?_
  rintro e w' ⟨v', rfl, h1, h2, h3⟩
  obtain ⟨o, c, rfl⟩ := own_sl h1
  exact ⟨o, c, rfl, h1, h2, h3⟩
theorem toAllA_sl (m : List Value) (hm : m.length = 18) (om : ∀ u ∈ m, u.oneCell' = true) (sb : Nat)
    (np : Nat) (v : Value) (n : Nat) (xs : List Value) (B : Nat) (w : World) (hB : B ≤ w.heap.size) (hown : w.ownsRow B 53 19 v n xs) (hn : n + np ≤ 10000000)
    (hsb : w.heap[sb]? = some (.cells m.toArray 51)) :
    Calls Ybad.prog 18 #[v, .int .i64 np, .slice (some ⟨sb, 0, none⟩) 1 1] w fun e w' => ∃ o c, e = .returned (.slice o (n + np) c) ∧ w'.ownsRow B 53 19 (.slice o (n + np) c) (n + np) (xs ++ toAll m np) ∧ w.grownBy w' v.ownBlock ∧
      ((Value.slice o (n + np) c).ownBlock = v.ownBlock ∨ ∃ g, (Value.slice o (n + np) c).ownBlock = some g ∧ w.heap.size ≤ g) := by
  refine (toAllA_any m hm om sb np v n xs B w hB hown hn hsb).mono ?_
  rintro e w' ⟨v', rfl, h1, h2, h3⟩
  obtain ⟨o, c, rfl⟩ := own_sl h1
  exact ⟨o, c, rfl, h1, h2, h3⟩

/-- Sessions and ones, the first j laid. -/
def sessTo (j N : Nat) : List Value := (List.range j).map (fun t : Nat => Value.string (agS t)) ++ List.replicate (N - j) (.string ⟨#[]⟩)
def onesTo (j N : Nat) : List Value := List.replicate j (Value.int .i64 1) ++ List.replicate (N - j) (Value.int .i64 0)
theorem sessTo_length {j N : Nat} (h : j ≤ N) : (sessTo j N).length = N := by simp [sessTo]; omega
theorem onesTo_length {j N : Nat} (h : j ≤ N) : (onesTo j N).length = N := by simp [onesTo]; omega
theorem sessTo_set {j N : Nat} (h : j < N) : (sessTo j N).set j (.string (agS j)) = sessTo (j + 1) N := by
  unfold sessTo
  rw [List.set_append_right _ _ (by simp)]
  simp only [List.length_map, List.length_range, Nat.sub_self, List.range_succ, List.map_append, List.map_cons, List.map_nil, List.append_assoc]
  congr 1
  rw [show N - j = (N - (j + 1)) + 1 by omega, List.replicate_succ]
  rfl
theorem onesTo_set {j N : Nat} (h : j < N) : (onesTo j N).set j (.int .i64 1) = onesTo (j + 1) N := by
  unfold onesTo
  rw [List.set_append_right _ _ (by simp)]
  simp only [List.length_replicate, Nat.sub_self]
  rw [show N - j = (N - (j + 1)) + 1 by omega, List.replicate_succ, List.set_cons_zero, List.replicate_succ', List.append_assoc]
  rfl
theorem made_strs (N : Nat) : madeCells #[Value.string ⟨#[]⟩] N = (sessTo 0 N).toArray := by
  apply Array.ext
  · simp [madeCells, sessTo]
  · intro i h1 h2
    simp [madeCells, sessTo, Nat.mod_one]
theorem made_ints (N : Nat) : madeCells #[Value.int .i64 0] N = (onesTo 0 N).toArray := by
  apply Array.ext
  · simp [madeCells, onesTo]
  · intro i h1 h2
    simp [madeCells, onesTo, Nat.mod_one]
theorem Ybad.info9 : (Ybad.prog.info? 9).map (fun i => (i.zero, i.size, i.bytes)) = some (some (.string ⟨#[]⟩), 1, 16) := by kernel_rfl
theorem Ybad.info3 : (Ybad.prog.info? 3).map (fun i => (i.zero, i.size, i.bytes)) = some (some (.int .i64 0), 1, 8) := by kernel_rfl

def aFour (N : Nat) (x : ByteArray) (m : Int) : List Value := toAll (amsg m 2 x) N ++ toAll (amsg m 2 (notS x)) N ++ toAll (amsg m 3 x) N ++ toAll (amsg m 3 (notS x)) N
def inTo (N : Nat) (ss : List ByteArray) : Nat → List Value
  | 0 => []
  | m + 1 => inTo N ss m ++ aFour N (ss.getD m ByteArray.empty) m
def startOf (N h : Nat) (ss : List ByteArray) (id len : Nat) : List Value :=
  halves h (amsg id 1 (ss.getD id ByteArray.empty)) (amsg id 1 (notS (ss.getD id ByteArray.empty))) h ++ inTo N ss len
def startCnt (N h len : Nat) : Nat := h + len * (4 * N)

/-- The two slices, made. -/
def Two (w wc : World) (sb ob N j : Nat) : Prop := BlkIs wc sb (sessTo j N).toArray 9 ∧ BlkIs wc ob (onesTo j N).toArray 3 ∧ w.heap.size ≤ sb ∧ w.heap.size ≤ ob ∧ sb ≠ ob ∧ w.grownBy wc none

theorem equivocated_at (v : ByteArray) (hv : v.size ≤ 140737488355328) (w : World) :
    Calls Ybad.prog 17 #[.string v] w fun e w' => e = .returned (.string (notS v)) ∧ w = w' :=
  (equivocated_any v hv w).mono fun e w' ⟨h1, h2⟩ => ⟨h1, h2.symm⟩
/-- The equivocator's start messages so far: the row lies behind its own block. -/
def St (w3 wr : World) (Eb gb n : Nat) (xs : List Value) : Prop :=
  ∃ o c, BlkIs wr Eb #[.slice o n c, .pointer (some ⟨gb, 0, none⟩)] 38 ∧ wr.ownsRow (Eb + 1) 53 19 (.slice o n c) n xs ∧ w3.grownBy wr (some Eb)
theorem sessTo_full (N : Nat) : sessTo N N = (List.range N).map (fun t : Nat => Value.string (agS t)) := by simp [sessTo]
theorem onesTo_full (N : Nat) : onesTo N N = List.replicate N (Value.int .i64 1) := by simp [onesTo]
theorem two1 (v : World) (H N : Nat) (hH : v.heap.size = H) : Two v ((v.alloc (.cells (madeCells #[.string ⟨#[]⟩] N) 9)).alloc (.cells (madeCells #[.int .i64 0] N) 3)).drew H (H + 1) N 0 := by
  refine ⟨?_, ?_, by omega, by omega, by omega, gb_none (gb_none (World.grownBy_alloc _ _ _) (World.grownBy_alloc _ _ _)) (gb_drew _ _)⟩
  · rw [made_strs]; exact (BlkIs.newAt hH _ _).alloc _
  · rw [made_ints]; exact BlkIs.newAt (by simp [hH]) _ _
theorem two2 (v : World) (H N : Nat) (hH : v.heap.size = H) : Two v ((v.alloc (.cells (madeCells #[.int .i64 0] N) 3)).alloc (.cells (madeCells #[.string ⟨#[]⟩] N) 9)).drew (H + 1) H N 0 := by
  refine ⟨?_, ?_, by omega, by omega, by omega, gb_none (gb_none (World.grownBy_alloc _ _ _) (World.grownBy_alloc _ _ _)) (gb_drew _ _)⟩
  · rw [made_strs]; exact BlkIs.newAt (by simp [hH]) _ _
  · rw [made_ints]; exact (BlkIs.newAt hH _ _).alloc _
theorem cfg_at0 (w : World) (X : Obj) {c : Array Value} : ∀ o, ((w.alloc X).alloc (.cells c 32)).cell? ⟨w.heap.size + 1, o, none⟩ = c[o]? := (BlkIs.newAt (w := w.alloc X) (by simp) c 32).cells
theorem cfg_at1 (w : World) (X Y : Obj) {c : Array Value} : ∀ o, (((w.alloc X).alloc (.cells c 32)).alloc Y).cell? ⟨w.heap.size + 1, o, none⟩ = c[o]? := ((BlkIs.newAt (w := w.alloc X) (by simp) c 32).alloc Y).cells
theorem cfg_at2 (w : World) (X Y Z : Obj) {c : Array Value} : ∀ o, ((((w.alloc X).alloc (.cells c 32)).alloc Y).alloc Z).cell? ⟨w.heap.size + 1, o, none⟩ = c[o]? := (((BlkIs.newAt (w := w.alloc X) (by simp) c 32).alloc Y).alloc Z).cells

end Go.Proofs.YbulkxuDoor
