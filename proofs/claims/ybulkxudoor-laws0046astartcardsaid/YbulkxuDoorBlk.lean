import Derived.Test.YbulkxuDoorRow
import Derived.Deep.RegionHeld3
/-! Blocks that are known whole. -/
namespace Go.Proofs.YbulkxuDoor
open Go.RowKit
set_option linter.all false

theorem gb_undrew {w w' : World} {r : Option Nat} (h : w.drew.grownBy w' r) : w.grownBy w' r := ⟨h.os, h.tape, h.output, h.size, h.block⟩
/-- A block that is known whole. -/
def BlkIs (w : World) (b : Nat) (cs : Array Value) (t : TypeId) : Prop := w.heap[b]? = some (.cells cs t (0, 0))
theorem BlkIs.cells {w : World} {b : Nat} {cs : Array Value} {t : TypeId} (h : BlkIs w b cs t) : ∀ o, w.cell? ⟨b, o, none⟩ = cs[o]? := fun o => cell_of_row w b o _ _ _ h
theorem BlkIs.lt {w : World} {b : Nat} {cs : Array Value} {t : TypeId} (h : BlkIs w b cs t) : b < w.heap.size := (Array.getElem?_eq_some_iff.1 h).1
theorem BlkIs.gb {w w' : World} {b : Nat} {cs : Array Value} {t : TypeId} {r : Option Nat} (h : BlkIs w b cs t) (g : w.grownBy w' r) (ne : some b ≠ r) : BlkIs w' b cs t := (g.block b h.lt ne).trans h
theorem BlkIs.gbn {w w' : World} {b : Nat} {cs : Array Value} {t : TypeId} (h : BlkIs w b cs t) (g : w.grownBy w' none) : BlkIs w' b cs t := h.gb g (by simp)
theorem BlkIs.alloc {w : World} {b : Nat} {cs : Array Value} {t : TypeId} (h : BlkIs w b cs t) (o : Obj) : BlkIs (w.alloc o) b cs t := h.gbn (World.grownBy_alloc w o none)
theorem BlkIs.drew {w : World} {b : Nat} {cs : Array Value} {t : TypeId} (h : BlkIs w b cs t) : BlkIs w.drew b cs t := h
theorem BlkIs.new (w : World) (cs : Array Value) (t : TypeId) : BlkIs (w.alloc (.cells cs t)) w.heap.size cs t := heap_alloc_new w _
theorem tab_drew {B : Nat} {w : World} (h : Tab B w) : Tab B w.drew := h.on (Below.refl B w).drew
theorem own_gbn {w w' : World} {B e size : Nat} {v : Value} {n : Nat} {xs : List Value} (h : w.ownsRow B e size v n xs) (g : w.grownBy w' none) : w'.ownsRow B e size v n xs :=
  h.kept g (by cases v.ownBlock <;> simp)
theorem tab_of {B eb : Nat} {w w' : World} (h : Tab B w) (g : w.grownBy w' (some eb)) (hB : B ≤ w.heap.size) (he : B ≤ eb) : Tab B w' := h.gb g hB (fun k e => by cases e; exact he)
end Go.Proofs.YbulkxuDoor
