import Derived.Test.YbulkxuDoorRow
import Derived.Laws.AppendOwnNone
import Derived.Maps.AppendAt
namespace Go.Proofs.YbulkxuDoor
open Go.RowKit
set_option linter.all false

/-- 'append(v, va...)', both the call's own. -/
theorem run_append_row {P : Program} (w : World) (t ty : TypeId) (base base' : Nat) (e : TypeId) (i : TypeInfo) (z : Value) (size bytes : Nat) (ht : P.underlying t = some (.slice e)) (hi : P.info? e = some i) (hz : i.zero = some z)
    (hsize : i.size = size) (hby : i.bytes = bytes) (hzs : z.cells.size = size) (hsz : 0 < size)
    (v : Value) (n : Nat) (xs : List Value) (hown : w.ownsRow base e size v n xs) (va : Value) (m : Nat) (ys : List Value) (hva : w.ownsRow base' e size va m ys)
    (h1 : ∀ u ∈ ys, u.oneCell' = true) (h63 : n + m ≤ maxLen) (hbytes : (n + m) * bytes ≤ 140737488355328) (hbase : base ≤ w.heap.size) :
    ∃ v' w', (Builtin.append_ #[t, t] ty #[v, va]).run P w = .ok v' w' ∧ w'.ownsRow base e size v' (n + m) (xs ++ ys) ∧ w.grownBy w' v.ownBlock ∧
      (v'.ownBlock = v.ownBlock ∨ ∃ g, v'.ownBlock = some g ∧ w.heap.size ≤ g) := by
  rcases hva.2 with ⟨rfl, rfl⟩ | ⟨g, cap, cur, rfl, _, hg, _, _, _, htake⟩
  · have : ys = [] := List.eq_nil_of_length_eq_zero (by simpa using hva.1)
    subst this
    exact ⟨v, w, run_append_owned_none (P := P) (w := w) base t ty e i size ht hi v n xs hown, by simpa using hown, gb_refl _ _, .inl rfl⟩
  · obtain ⟨v', w', hr, h2, h3, _, h5⟩ := run_append_own_at (P := P) w base t ty e i z size bytes ht hi hz hsize hby hzs hsz v n xs hown ⟨g, 0, none⟩ m cap ys hva.1 (hva.cells rfl) h1 h63 hbytes hbase
    refine ⟨v', w', hr, h2, h3, ?_⟩
    rcases h5 with h | h
    · exact .inl h
    · exact .inr ⟨_, h, Nat.le_refl _⟩

theorem wpList_append_row {P : Program} (w : World) {ops : Array Oper} {rest : List Oper} {o : Oper} {a : Act} {Q : Exit → Act → World → Prop} (hgd : o.guard = none) (s x : Operand) (t : TypeId)
    (ho : o.op = .call { callee := .builtin .append, args := #[s, x], argTypes := #[t, t] })
    (base base' : Nat) (e : TypeId) (i : TypeInfo) (z : Value) (size bytes : Nat) (ht : P.underlying t = some (.slice e)) (hi : P.info? e = some i) (hz : i.zero = some z)
    (hsize : i.size = size) (hby : i.bytes = bytes) (hzs : z.cells.size = size) (hsz : 0 < size)
    (v : Value) (n : Nat) (xs : List Value) (hs : a.eval s = v) (hown : w.ownsRow base e size v n xs) (va : Value) (m : Nat) (ys : List Value) (hx : a.eval x = va) (hva : w.ownsRow base' e size va m ys)
    (h1 : ∀ u ∈ ys, u.oneCell' = true) (h63 : n + m ≤ maxLen) (hbytes : (n + m) * bytes ≤ 140737488355328) (hbase : base ≤ w.heap.size)
    (h : ∀ v' w', w'.ownsRow base e size v' (n + m) (xs ++ ys) → w.grownBy w' v.ownBlock → (v'.ownBlock = v.ownBlock ∨ ∃ g, v'.ownBlock = some g ∧ w.heap.size ≤ g) → wpList P ops Q rest (a.put o.dst v') w') : wpList P ops Q (o :: rest) a w :=
  wpList_plain hgd fun K hK => by
    obtain ⟨v', w', hr, h2, h3, h4⟩ := run_append_row (P := P) w t o.type base base' e i z size bytes ht hi hz hsize hby hzs hsz v n xs hown va m ys hva h1 h63 hbytes hbase
    unfold Oper.wp execOp
    simp only [ho, resolve, invoke, builtin, Sem.run_bind, Sem.run_pure, Result.andThen_ok, List.map_toArray, List.map_cons, List.map_nil, hs, hx, hr]
    exact hK _ _ (h v' w' h2 h3 h4)
end Go.Proofs.YbulkxuDoor
