import Derived.Test.YbulkzkRows
import Derived.WalkKit
import Derived.WalkSpells
import Derived.Deep.AppendLies
import Derived.Deep.OwnRows
/-! Small laws on worlds that grow: what a call leaves of the blocks that were there; blocks that are known whole. -/
namespace Go.Proofs.Ybulkzk
open Go.RowKit
set_option linter.all false

theorem gb_refl (w : World) (row : Option Nat) : w.grownBy w row := ⟨rfl, rfl, rfl, Nat.le_refl _, fun _ _ _ => rfl⟩

theorem gb_trans {a b c : World} {r s : Option Nat} (h : a.grownBy b r) (k : b.grownBy c s) (hs : ∀ i, s = some i → i < a.heap.size → r = some i) : a.grownBy c r :=
  ⟨k.os.trans h.os, k.tape.trans h.tape, k.output.trans h.output, Nat.le_trans h.size k.size, fun i hi hr => by
    rw [k.block i (Nat.lt_of_lt_of_le hi h.size) (fun e => hr (hs i e.symm hi).symm), h.block i hi hr]⟩

theorem gb_none {a b c : World} {r : Option Nat} (h : a.grownBy b r) (k : b.grownBy c none) : a.grownBy c r := gb_trans h k (fun _ e _ => by cases e)

theorem gb_weak {a b : World} {r : Option Nat} (h : a.grownBy b none) : a.grownBy b r := ⟨h.os, h.tape, h.output, h.size, fun k hk _ => h.block k hk (by simp)⟩

theorem gb_drew (w : World) (r : Option Nat) : w.grownBy w.drew r := ⟨rfl, rfl, rfl, Nat.le_refl _, fun _ _ _ => rfl⟩

theorem gb_setCell (w : World) (a : Addr) (u : Value) : w.grownBy (w.setCell a u) (some a.block) :=
  ⟨rfl, rfl, rfl, by simp [World.setCell], fun k _ hr => Below.heap_setCell _ _ _ _ (fun e => hr (by rw [e]))⟩

/-- What lies below B reads as it did. -/
theorem gb_below {B : Nat} {a b : World} {r : Option Nat} (h : a.grownBy b r) (hB : B ≤ a.heap.size) (hr : ∀ k, r = some k → B ≤ k) : Below B a b :=
  (Below.refl B a).grown h hB hr

/-- A block that is known whole, written whole. -/
theorem heap_setRow_same {w : World} {g : Nat} {cur cs : Array Value} {t : TypeId} {fr : Nat × Nat} (hg : w.heap[g]? = some (.cells cur t fr)) : (w.setRow g cs).heap[g]? = some (.cells cs t fr) := by
  simp only [World.setRow, Array.getElem?_modify, hg, if_pos]; rfl
theorem heap_setRow_other {w : World} {g k : Nat} {cs : Array Value} (h : k ≠ g) : (w.setRow g cs).heap[k]? = w.heap[k]? := by
  simp only [World.setRow, Array.getElem?_modify]; rw [if_neg (by omega)]
theorem gb_setRow (w : World) (g : Nat) (cs : Array Value) : w.grownBy (w.setRow g cs) (some g) :=
  ⟨rfl, rfl, rfl, by simp, fun k _ hr => heap_setRow_other (fun e => hr (by rw [e]))⟩

theorem run_storeVar_row {P : Program} (w : World) (g : Nat) (ty t : TypeId) (cur cells : Array Value) (hg : w.heap[g]? = some (.cells cur t (0, 0))) (hs : cur.size = cells.size)
    (hi : (P.info? ty).map (·.size) = some cells.size) (h1 : ∀ v ∈ cells.toList, v.oneCell' = true) :
    (storeVar ty ⟨g, 0, none⟩ (.agg cells)).run P w = .ok () (w.setRow g cells) := by
  have hst := run_storeCells_at P g 0 t cells.toList 0 cur w hg (by simp; omega) h1
  simp only [Nat.add_zero] at hst
  cases hq : P.info? ty with
  | none => simp [hq] at hi
  | some i =>
    have hz : cells.size = i.size := by simp [hq] at hi; omega
    have hd : List.drop cells.size cur.toList = [] := List.drop_eq_nil_of_le (by simp; omega)
    simp [storeVar, sizeOf, typeInfo, hq, Value.cells, hz]
    simp at hst
    rw [hz] at hd
    simpa [hd, hz] using hst

theorem wpList_store_row {P : Program} {ops : Array Oper} {rest : List Oper} {op : Oper} {a : Act} {w : World} {Q : Exit → Act → World → Prop} (hgd : op.guard = none) (ty : TypeId) (x y : Operand) (ho : op.op = .store ty x y)
    (g : Nat) (cells : Array Value) (hx : a.eval x = .pointer (some ⟨g, 0, none⟩)) (hy : a.eval y = .agg cells) (t : TypeId) (cur : Array Value)
    (hg : w.heap[g]? = some (.cells cur t (0, 0))) (hs : cur.size = cells.size) (hi : (P.info? ty).map (·.size) = some cells.size) (h1 : ∀ v ∈ cells.toList, v.oneCell' = true)
    (h : wpList P ops Q rest (a.put op.dst undef) (w.setRow g cells)) : wpList P ops Q (op :: rest) a w :=
  wpList_plain hgd fun _ hK => by
    unfold Oper.wp execOp
    simp only [ho, hx, hy, Instr.storeAt, Instr.sureAddr, Sem.run_bind, Sem.run_pure, Result.andThen_ok, run_storeVar_row w g ty t cur cells hg hs hi h1]
    exact hK _ _ h

/-- A block that is known whole. -/
def BlkIs (w : World) (b : Nat) (cs : Array Value) (t : TypeId) : Prop := w.heap[b]? = some (.cells cs t (0, 0))
theorem BlkIs.cells {w : World} {b : Nat} {cs : Array Value} {t : TypeId} (h : BlkIs w b cs t) : ∀ o, w.cell? ⟨b, o, none⟩ = cs[o]? := fun o => cell_of_row w b o _ _ _ h
theorem BlkIs.lt {w : World} {b : Nat} {cs : Array Value} {t : TypeId} (h : BlkIs w b cs t) : b < w.heap.size := (Array.getElem?_eq_some_iff.1 h).1
theorem BlkIs.gb {w w' : World} {b : Nat} {cs : Array Value} {t : TypeId} {r : Option Nat} (h : BlkIs w b cs t) (g : w.grownBy w' r) (ne : some b ≠ r) : BlkIs w' b cs t := (g.block b h.lt ne).trans h
theorem BlkIs.gbn {w w' : World} {b : Nat} {cs : Array Value} {t : TypeId} (h : BlkIs w b cs t) (g : w.grownBy w' none) : BlkIs w' b cs t := h.gb g (by simp)
theorem BlkIs.alloc {w : World} {b : Nat} {cs : Array Value} {t : TypeId} (h : BlkIs w b cs t) (o : Obj) : BlkIs (w.alloc o) b cs t := h.gbn (World.grownBy_alloc w o none)
theorem BlkIs.drew {w : World} {b : Nat} {cs : Array Value} {t : TypeId} (h : BlkIs w b cs t) : BlkIs w.drew b cs t := h
theorem BlkIs.new (w : World) (cs : Array Value) (t : TypeId) : BlkIs (w.alloc (.cells cs t)) w.heap.size cs t := heap_alloc_new w _

theorem gb_undrew {w w' : World} {r : Option Nat} (h : w.drew.grownBy w' r) : w.grownBy w' r := ⟨h.os, h.tape, h.output, h.size, h.block⟩
theorem BlkIs.newAt {w : World} {b : Nat} (h : w.heap.size = b) (cs : Array Value) (t : TypeId) : BlkIs (w.alloc (.cells cs t)) b cs t := by subst h; exact BlkIs.new w cs t
/-- Whatever a cell holds. -/
def cellAt (w : World) (b j : Nat) : Value := (w.cell? ⟨b, j, none⟩).getD undef
theorem cellAt_of {w : World} {b j : Nat} (h : (w.cell? ⟨b, j, none⟩).isSome = true) : w.cell? ⟨b, j, none⟩ = some (cellAt w b j) := by
  obtain ⟨u, hu⟩ := Option.isSome_iff_exists.1 h
  simp [cellAt, hu]

theorem BlkIs.set {w : World} {b j : Nat} {cs : Array Value} {t : TypeId} (h : BlkIs w b cs t) (v : Value) : BlkIs (w.setCell ⟨b, j, none⟩ v) b (cs.setIfInBounds j v) t := heap_setCell_same w b j cs t v h
theorem BlkIs.setOther {w : World} {b c j : Nat} {cs : Array Value} {t : TypeId} (h : BlkIs w b cs t) (v : Value) (ne : b ≠ c) : BlkIs (w.setCell ⟨c, j, none⟩ v) b cs t := h.gb (gb_setCell w ⟨c, j, none⟩ v) (by simpa using ne)

end Go.Proofs.Ybulkzk
