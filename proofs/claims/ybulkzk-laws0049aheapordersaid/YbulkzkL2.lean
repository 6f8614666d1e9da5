import Derived.Test.YbulkzkL1
namespace Go.Proofs.Ybulkzk
open Go.RowKit
set_option linter.all false

theorem Yba.info4 : (Yba.prog.info? 4).map (fun i => (i.zero, i.size, i.bytes)) = some (some (.bool false), 1, 1) := by kernel_rfl
theorem eq_nil25 (a : Addr) (w : World) : (binOp .eql 25 (.pointer (some a)) (.pointer none)).run Yba.prog w = .ok (.bool false) w := by kernel_rfl

theorem P2.facts {w : World} {n sb pb k : Nat} {R : List Nat} {eb : Nat} {v : Value} {id key : Nat → Int} {bs : List Bool} {p : Int} {wr : World} (s : P2 w n sb pb k R eb v id key bs p wr) :
    ∃ (d : Nat) (a : Option Addr) (m c : Nat), v = .slice a m c ∧ m + (k + 1) = n ∧ id eb = (d : Int) + 1 ∧ d < n ∧ wr.cell? ⟨eb, 0, none⟩ = some (.int .u64 ((d : Int) + 1)) ∧ wr.cell? ⟨eb, 8, none⟩ = some (.int .i64 (-1)) ∧
      wr.cell? ⟨sb, d, none⟩ = some (.bool false) ∧ wr.frozen? ⟨sb, d, none⟩ = false ∧ wr.cell? ⟨w.heap.size, 0, none⟩ = some (.slice a m c) ∧
      wr.cell? ⟨eb, 5, none⟩ = some (.int .u64 (key eb % 1000000000)) ∧ wr.cell? ⟨eb, 6, none⟩ = some (.int .i64 (key eb / 1000000000)) ∧ wr.cell? ⟨eb, 7, none⟩ = some (.pointer none) ∧
      wr.cell? ⟨pb, 0, none⟩ = some (.int .u64 (p % 1000000000)) ∧ wr.cell? ⟨pb, 1, none⟩ = some (.int .i64 (p / 1000000000)) ∧ wr.cell? ⟨pb, 2, none⟩ = some (.pointer none) ∧ sb ≠ w.heap.size := by
  obtain ⟨a, c, hv⟩ := own_shape s.q.row
  have h1 := s.eid
  obtain ⟨d, hd⟩ : ∃ d : Nat, id eb = (d : Int) + 1 := ⟨(id eb - 1).toNat, by omega⟩
  have he := s.ent.cells
  rw [hd] at he
  have hu := s.eun
  have e1 : (id eb - 1).toNat = d := by omega
  rw [e1] at hu
  refine ⟨d, a, R.length, c, hv, s.len, hd, by omega, by rw [he]; rfl, by rw [he]; rfl, ?_, frozen_of_row _ _ _ _ _ s.seen, by rw [s.q.var.cells, hv]; rfl, by rw [he]; rfl, by rw [he]; rfl, by rw [he]; rfl, by rw [s.prev.cells]; rfl, by rw [s.prev.cells]; rfl, by rw [s.prev.cells]; rfl, ?_⟩
  · rw [s.seen.cells]; simp [bools, hu]
  · intro e; exact s.ds (.inl e)
theorem bools_set (bs : List Bool) (d : Nat) : (bools bs).setIfInBounds d (.bool true) = bools (bs.set d true) := by
  simp [bools, List.map_set]
end Go.Proofs.Ybulkzk
