import Derived.Test.YbulkxuDoorE1
namespace Go.Proofs.YbulkxuDoor
open Go.RowKit
set_option linter.all false

/-- The first c of a sender's four casts. -/
def partC (N : Nat) (x : ByteArray) (m : Int) : Nat → List Value
  | 0 => []
  | c + 1 => partC N x m c ++ toAll (amsg m (2 + ((c / 2 : Nat) : Int)) (if c % 2 = 0 then x else notS x)) N
theorem partC_four (N : Nat) (x : ByteArray) (m : Int) : partC N x m 4 = aFour N x m := by
  simp [partC, aFour]
theorem bndE {h m N c : Nat} (hm : m ≤ 256) (hN : N ≤ 255) (hh : h ≤ 255) (hc : c ≤ 4) : h + m * (4 * N) + c * N + N ≤ 10000000 := by
  have a0 : m * (4 * N) ≤ 256 * (4 * 255) := Nat.mul_le_mul hm (Nat.mul_le_mul_left 4 hN)
  have a1 : c * N ≤ 4 * 255 := Nat.mul_le_mul hc hN
  omega
/-- The equivocator's start messages so far, and blocks that hold none of them. -/
def St3 (w3 wr : World) (Eb gb n : Nat) (xs : List Value) (bs : List Nat) : Prop :=
  ∃ o c, BlkIs wr Eb #[.slice o n c, .pointer (some ⟨gb, 0, none⟩)] 38 ∧ wr.ownsRow (Eb + 1) 53 19 (.slice o n c) n xs ∧ w3.grownBy wr (some Eb) ∧ ∀ b ∈ bs, (Value.slice o n c).ownBlock ≠ some b
theorem St3.to {w3 wr : World} {Eb gb n n' : Nat} {xs xs' : List Value} {bs : List Nat} (h : St3 w3 wr Eb gb n xs bs) (hn : n = n') (hx : xs = xs') : St3 w3 wr Eb gb n' xs' bs := by subst hn; subst hx; exact h
theorem St3.fewer {w3 wr : World} {Eb gb n : Nat} {xs : List Value} {bs bs' : List Nat} (h : St3 w3 wr Eb gb n xs bs) (hb : ∀ b ∈ bs', b ∈ bs) : St3 w3 wr Eb gb n xs bs' := by
  obtain ⟨o, c, h1, h2, h3, h4⟩ := h
  exact ⟨o, c, h1, h2, h3, fun b hm => h4 b (hb b hm)⟩
/-- A new block beside. -/
theorem St3.new {w3 wr : World} {Eb gb n : Nat} {xs : List Value} {bs : List Nat} (h : St3 w3 wr Eb gb n xs bs) (ob : Obj) : St3 w3 (wr.alloc ob) Eb gb n xs (wr.heap.size :: bs) := by
  obtain ⟨o, c, h1, h2, h3, h4⟩ := h
  refine ⟨o, c, h1.alloc _, h2.alloc _, gb_none h3 (World.grownBy_alloc _ _ _), fun b hm => ?_⟩
  rcases List.mem_cons.1 hm with rfl | hm
  · intro e
    have := (h2.lt _ e).2; omega
  · exact h4 b hm
theorem St.three {w3 wr : World} {Eb gb n : Nat} {xs : List Value} (h : St w3 wr Eb gb n xs) : St3 w3 wr Eb gb n xs [] := by
  obtain ⟨o, c, h1, h2, h3⟩ := h
  exact ⟨o, c, h1, h2, h3, fun b hm => by cases hm⟩
theorem own_base {w : World} {B B' e size : Nat} {v : Value} {n : Nat} {xs : List Value} (h : w.ownsRow B e size v n xs) (hb : B' ≤ B) : w.ownsRow B' e size v n xs := by
  refine ⟨h.1, ?_⟩
  rcases h.2 with h0 | ⟨g, cap, cur, h1, h2, h3⟩
  · exact .inl h0
  · exact .inr ⟨g, cap, cur, h1, by omega, h3⟩
end Go.Proofs.YbulkxuDoor
