import Derived.Test.YbulkxuDoorKit
/-! Laws for rows of messages that grow, and what 'toHalves', 'ToAll' lay. -/
namespace Go.Proofs.YbulkxuDoor
open Go.RowKit
set_option linter.all false

/-- A new block, written whole at once. -/
theorem wpList_store_new {P : Program} {ops : Array Oper} {rest : List Oper} {op : Oper} {a : Act} {W w : World} {Q : Exit → Act → World → Prop} (hgd : op.guard = none) (ty : TypeId) (x y : Operand) (ho : op.op = .store ty x y)
    (cells : Array Value) (t : TypeId) (cur : Array Value) (hW : W = w.alloc (.cells cur t)) (hx : a.eval x = .pointer (some ⟨w.heap.size, 0, none⟩)) (hy : a.eval y = .agg cells)
    (hs : cur.size = cells.size) (hi : (P.info? ty).map (·.size) = some cells.size) (h1 : ∀ v ∈ cells.toList, v.oneCell' = true)
    (h : wpList P ops Q rest (a.put op.dst undef) (w.alloc (.cells cells t))) : wpList P ops Q (op :: rest) a W := by
  subst hW
  refine wpList_store_row hgd ty x y ho w.heap.size cells hx hy t cur (heap_alloc_new w _) hs hi h1 ?_
  have : (w.alloc (.cells cur t)).setRow w.heap.size cells = w.alloc (.cells cells t) := by
    simp only [World.setRow, World.alloc]
    congr 1
    apply Array.ext_getElem?
    intro i
    simp only [Array.getElem?_modify, Array.getElem?_push]
    by_cases e : i = w.heap.size
    · subst e; simp
    · rw [if_neg (by omega), if_neg e, if_neg e]
  rw [this]; exact h

/-- What 'toHalves' lays: to each of the first k parties, the one message to the lower half, the other to the rest. -/
def halves (h : Nat) (lo up : List Value) : Nat → List Value
  | 0 => []
  | k + 1 => halves h lo up k ++ (Value.int .i64 k :: (if (h + 1) / 2 ≤ k then up else lo))

theorem halves_length (h : Nat) (lo up : List Value) (n : Nat) (hl : lo.length = n) (hu : up.length = n) : ∀ k, (halves h lo up k).length = k * (n + 1)
  | 0 => by simp [halves]
  | k + 1 => by
    rw [halves, List.length_append, halves_length h lo up n hl hu k, Nat.add_mul]
    split <;> simp [hl, hu]

theorem one_cons (a : Int) (l : List Value) (h : ∀ u ∈ l, u.oneCell' = true) : ∀ u ∈ (Value.int .i64 a :: l), u.oneCell' = true := by
  intro u hu
  rcases List.mem_cons.1 hu with rfl | hu
  · rfl
  · exact h u hu
theorem hbase2 {B : Nat} {w : World} {o p : Obj} (h : B ≤ w.heap.size) : B ≤ ((w.alloc o).alloc p).heap.size := by simp; omega

/-- Where a row that grows lies: where it lay, or in a block made behind M. -/
abbrev At (M : Nat) (ov v : Value) : Prop := ov.ownBlock = v.ownBlock ∨ ∃ g, ov.ownBlock = some g ∧ M < g
theorem far {N M b : Nat} {ov v : Value} (hv : ∀ i, v.ownBlock = some i → i < N) (hat : At M ov v) (h1 : N ≤ b) (h2 : b ≤ M) : some b ≠ ov.ownBlock := by
  intro e
  rcases hat with h | ⟨g, h, hg⟩
  · have := hv b (by rw [← h, ← e]); omega
  · rw [h] at e; cases e; omega
theorem at_le {M N : Nat} {ov v : Value} (hat : At M ov v) (h : N ≤ M + 1 := by omega) : ov.ownBlock = v.ownBlock ∨ ∃ g, ov.ownBlock = some g ∧ N ≤ g := by
  rcases hat with h' | ⟨g, h1, h2⟩
  · exact .inl h'
  · exact .inr ⟨g, h1, by omega⟩
theorem at_old {N M : Nat} {ov v : Value} (hat : At M ov v) (h : N ≤ M + 1) : ∀ i, ov.ownBlock = some i → i < N → v.ownBlock = some i := by
  intro i e hi
  rcases hat with h' | ⟨g, h', hg⟩
  · rw [← h']; exact e
  · rw [h'] at e; cases e; omega
theorem at_next {M H g n c : Nat} {ov v : Value} (hat : At M ov v) (h : ov.ownBlock = some g ∨ g = H) (hM : M < H) : At M (.slice (some ⟨g, 0, none⟩) n c) v := by
  rcases h with h | rfl
  · rcases hat with h' | ⟨g', h', hg⟩
    · exact .inl (by rw [← h', h]; rfl)
    · rw [h] at h'; cases h'; exact .inr ⟨_, rfl, hg⟩
  · exact .inr ⟨_, rfl, hM⟩

theorem hbase1 {B : Nat} {w : World} {o : Obj} (h : B ≤ w.heap.size) : B ≤ (w.alloc o).heap.size := by simp; omega
/-- What 'ToAll' lays: the message to each of the first k parties. -/
def toAll (m : List Value) : Nat → List Value
  | 0 => []
  | k + 1 => toAll m k ++ (Value.int .i64 k :: m)

theorem toAll_length (m : List Value) (n : Nat) (hl : m.length = n) : ∀ k, (toAll m k).length = k * (n + 1)
  | 0 => by simp [toAll]
  | k + 1 => by
    rw [toAll, List.length_append, toAll_length m n hl k, Nat.add_mul]
    simp [hl]

end Go.Proofs.YbulkxuDoor
