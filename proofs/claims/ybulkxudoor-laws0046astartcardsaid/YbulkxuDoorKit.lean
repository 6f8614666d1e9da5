import Derived.Test.YbulkxuDoorRows
import Derived.Test.YbulkxuDoorShelf
import Derived.WalkKit
import Derived.Deep.AppendLies
import Derived.Lib.ItoaLen
/-! Small laws on worlds that grow: what a call leaves of the blocks that were there. -/
namespace Go.Proofs.YbulkxuDoor
open Go.RowKit
set_option linter.all false

theorem gb_refl (w : World) (row : Option Nat) : w.grownBy w row := ⟨rfl, rfl, rfl, Nat.le_refl _, fun _ _ _ => rfl⟩

theorem gb_trans {a b c : World} {r s : Option Nat} (h : a.grownBy b r) (k : b.grownBy c s) (hs : ∀ i, s = some i → i < a.heap.size → r = some i) : a.grownBy c r :=
  ⟨k.os.trans h.os, k.tape.trans h.tape, k.output.trans h.output, Nat.le_trans h.size k.size, fun i hi hr => by
    rw [k.block i (Nat.lt_of_lt_of_le hi h.size) (fun e => hr (hs i e.symm hi).symm), h.block i hi hr]⟩

theorem gb_none {a b c : World} {r : Option Nat} (h : a.grownBy b r) (k : b.grownBy c none) : a.grownBy c r := gb_trans h k (fun _ e _ => by cases e)

theorem gb_weak {a b : World} {r : Option Nat} (h : a.grownBy b none) : a.grownBy b r := ⟨h.os, h.tape, h.output, h.size, fun k hk _ => h.block k hk (by simp)⟩

theorem gb_drew (w : World) (r : Option Nat) : w.grownBy w.drew r := ⟨rfl, rfl, rfl, Nat.le_refl _, fun _ _ _ => rfl⟩

theorem gb_grow (w : World) (k : Nat) (os : Array Obj) (r : Option Nat) : w.grownBy (Sort.grow (w.drewN k) os) r := by
  have hh : ∀ k, (w.drewN k).heap = w.heap ∧ (w.drewN k).os = w.os ∧ (w.drewN k).tape = w.tape ∧ (w.drewN k).output = w.output := by
    intro k
    induction k with
    | zero => exact ⟨rfl, rfl, rfl, rfl⟩
    | succ k ih => simp [World.drewN, World.drew] at ih ⊢
  obtain ⟨h1, h2, h3, h4⟩ := hh k
  refine ⟨h2, h3, h4, ?_, ?_⟩
  · simp only [Sort.grow, h1, Array.size_append]; omega
  · intro i hi _
    simp only [Sort.grow, h1]
    rw [Array.getElem?_append_left hi]

theorem gb_setCell (w : World) (a : Addr) (u : Value) : w.grownBy (w.setCell a u) (some a.block) :=
  ⟨rfl, rfl, rfl, by simp [World.setCell], fun k _ hr => Below.heap_setCell _ _ _ _ (fun e => hr (by rw [e]))⟩

/-- What lies below B reads as it did. -/
theorem gb_below {B : Nat} {a b : World} {r : Option Nat} (h : a.grownBy b r) (hB : B ≤ a.heap.size) (hr : ∀ k, r = some k → B ≤ k) : Below B a b :=
  (Below.refl B a).grown h hB hr

/-- The table of powers of ten, as the row lists it, whatever is done from block B on. -/
def Tab (B : Nat) (w : World) : Prop := ∀ w', Below B w w' → Lib.TabIs Ybad.prog w' Ybad.tabName .u64 Lib.pow10Tab

theorem Tab.on {B : Nat} {w w1 : World} (h : Tab B w) (hb : Below B w w1) : Tab B w1 := fun w' h' => h w' (hb.trans h')
theorem Tab.here {B : Nat} {w : World} (h : Tab B w) : Lib.TabIs Ybad.prog w Ybad.tabName .u64 Lib.pow10Tab := h w (Below.refl _ _)
theorem Tab.gb {B : Nat} {w w1 : World} {r : Option Nat} (h : Tab B w) (hg : w.grownBy w1 r) (hB : B ≤ w.heap.size) (hr : ∀ k, r = some k → B ≤ k) : Tab B w1 := h.on (gb_below hg hB hr)
theorem Tab.none {B : Nat} {w w1 : World} (h : Tab B w) (hg : w.grownBy w1 Option.none) (hB : B ≤ w.heap.size) : Tab B w1 := h.gb hg hB (fun _ e => by cases e)

/-- A number's decimal text. -/
def dec (n : Int) : ByteArray := ⟨(Lib.itoa n).toArray⟩
theorem dec_size (n : Int) (h0 : -9223372036854775808 ≤ n) (h1 : n ≤ 9223372036854775807) : (dec n).size ≤ 21 := by
  have := Lib.itoa_length_le n h0 h1
  simpa [dec, ByteArray.size] using this

theorem itoa_any (n : Int) (h0 : -9223372036854775808 ≤ n) (h1 : n ≤ 9223372036854775807) {B : Nat} (w : World) (hT : Tab B w) :
    Calls Ybad.prog 9 #[.int .i64 n] w fun e w' => e = .returned (.string (dec n)) ∧ w.grownBy w' none := by
  refine (Ybad.strconv_Itoa n h0 h1 w hT.here).mono ?_
  rintro e w' ⟨he, k, os, rfl⟩
  exact ⟨he, gb_grow w k os _⟩

/-- A block that is known whole, written whole. -/
theorem heap_setRow_same {w : World} {g : Nat} {cur cs : Array Value} {t : TypeId} {fr : Nat × Nat} (hg : w.heap[g]? = some (.cells cur t fr)) : (w.setRow g cs).heap[g]? = some (.cells cs t fr) := by
  simp only [World.setRow, Array.getElem?_modify, hg, if_pos]; rfl
theorem heap_setRow_other {w : World} {g k : Nat} {cs : Array Value} (h : k ≠ g) : (w.setRow g cs).heap[k]? = w.heap[k]? := by
  simp only [World.setRow, Array.getElem?_modify]; rw [if_neg (by omega)]
theorem gb_setRow (w : World) (g : Nat) (cs : Array Value) : w.grownBy (w.setRow g cs) (some g) :=
  ⟨rfl, rfl, rfl, by simp, fun k _ hr => heap_setRow_other (fun e => hr (by rw [e]))⟩

theorem run_storeVar_row {P : Program} (w : World) (g : Nat) (ty t : TypeId) (cur cells : Array Value) (hg : w.heap[g]? = some (.cells cur t (0, 0))) (hs : cur.size = cells.size)
    (hi : (P.info? ty).map (·.size) = some cells.size) (h1 : ∀ v ∈ cells.toList, v.oneCell' = true) :
    (storeVar ty ⟨g, 0, none⟩ (.agg cells)).run P w = .ok () (w.setRow g cells) := by
  have hst := run_storeCells_at P g 0 t cells.toList 0 cur w hg (by simp; omega) h1
  simp only [Nat.add_zero] at hst
  cases hq : P.info? ty with
  | none => simp [hq] at hi
  | some i =>
    have hz : cells.size = i.size := by simp [hq] at hi; omega
    have hd : List.drop cells.size cur.toList = [] := List.drop_eq_nil_of_le (by simp; omega)
    simp [storeVar, sizeOf, typeInfo, hq, Value.cells, hz]
    simp at hst
    rw [hz] at hd
    simpa [hd, hz] using hst

theorem wpList_store_row {P : Program} {ops : Array Oper} {rest : List Oper} {op : Oper} {a : Act} {w : World} {Q : Exit → Act → World → Prop} (hgd : op.guard = none) (ty : TypeId) (x y : Operand) (ho : op.op = .store ty x y)
    (g : Nat) (cells : Array Value) (hx : a.eval x = .pointer (some ⟨g, 0, none⟩)) (hy : a.eval y = .agg cells) (t : TypeId) (cur : Array Value)
    (hg : w.heap[g]? = some (.cells cur t (0, 0))) (hs : cur.size = cells.size) (hi : (P.info? ty).map (·.size) = some cells.size) (h1 : ∀ v ∈ cells.toList, v.oneCell' = true)
    (h : wpList P ops Q rest (a.put op.dst undef) (w.setRow g cells)) : wpList P ops Q (op :: rest) a w :=
  wpList_plain hgd fun _ hK => by
    unfold Oper.wp execOp
    simp only [ho, hx, hy, Instr.storeAt, Instr.sureAddr, Sem.run_bind, Sem.run_pure, Result.andThen_ok, run_storeVar_row w g ty t cur cells hg hs hi h1]
    exact hK _ _ h

end Go.Proofs.YbulkxuDoor
