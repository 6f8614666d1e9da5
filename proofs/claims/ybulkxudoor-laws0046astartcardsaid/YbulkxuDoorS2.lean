import Derived.Test.YbulkxuDoorS1
/-! Where in the start messages a message stands. -/
namespace Go.Proofs.YbulkxuDoor
open Go.RowKit
set_option linter.all false

/-- Message number k of xs is m, to party t. -/
def elAt (xs : List Value) (k t : Nat) (m : List Value) : Prop := ∀ j u, (Value.int .i64 t :: m)[j]? = some u → xs[k * 19 + j]? = some u
theorem elAt_left {xs ys : List Value} {k t : Nat} {m : List Value} (h : elAt xs k t m) : elAt (xs ++ ys) k t m := by
  intro j u hu
  have h1 := h j u hu
  have hl : k * 19 + j < xs.length := (List.getElem?_eq_some_iff.1 h1).1
  rw [List.getElem?_append_left hl]; exact h1
theorem elAt_right {xs ys : List Value} {a k t : Nat} {m : List Value} (hx : xs.length = a * 19) (h : elAt ys k t m) : elAt (xs ++ ys) (a + k) t m := by
  intro j u hu
  rw [List.getElem?_append_right (by rw [hx, Nat.add_mul]; omega), hx, show (a + k) * 19 + j - a * 19 = k * 19 + j by rw [Nat.add_mul]; omega]
  exact h j u hu
theorem elAt_one (t : Nat) (m : List Value) : elAt (Value.int .i64 t :: m) 0 t m := by
  intro j u hu
  simpa using hu
theorem toAll_at {m : List Value} (hm : m.length = 18) : ∀ {N tt : Nat}, tt < N → elAt (toAll m N) tt tt m
  | 0, tt, h => by omega
  | N + 1, tt, h => by
    rw [toAll]
    by_cases e : tt < N
    · exact elAt_left (toAll_at hm e)
    · obtain rfl : tt = N := by omega
      exact elAt_right (k := 0) (toAll_length m 18 hm tt) (elAt_one tt m)
theorem halves_at {lo up : List Value} {h : Nat} (hl : lo.length = 18) (hu : up.length = 18) : ∀ {k t : Nat}, t < k → elAt (halves h lo up k) t t (if (h + 1) / 2 ≤ t then up else lo)
  | 0, t, h => by omega
  | k + 1, t, ht => by
    rw [halves]
    by_cases e : t < k
    · exact elAt_left (halves_at hl hu e)
    · obtain rfl : t = k := by omega
      exact elAt_right (k := 0) (halves_length h lo up 18 hl hu t) (elAt_one t _)
theorem amsg_len (sd kd : Int) (v : ByteArray) : (amsg sd kd v).length = 18 := rfl
/-- What a sender's cast number c is. -/
def castC (x : ByteArray) (m : Int) (c : Nat) : List Value := amsg m (2 + ((c / 2 : Nat) : Int)) (if c % 2 = 0 then x else notS x)
theorem partC_length (N : Nat) (x : ByteArray) (m : Int) : ∀ C, (partC N x m C).length = (C * N) * 19
  | 0 => by simp [partC]
  | C + 1 => by
    rw [partC, List.length_append, partC_length N x m C, toAll_length _ 18 rfl, Nat.add_mul C 1 N, Nat.one_mul, Nat.add_mul]
theorem partC_at {N : Nat} {x : ByteArray} {m : Int} {c tt : Nat} (ht : tt < N) : ∀ {C : Nat}, c < C → elAt (partC N x m C) (c * N + tt) tt (castC x m c)
  | 0, h => by omega
  | C + 1, h => by
    rw [partC]
    by_cases e : c < C
    · exact elAt_left (partC_at ht e)
    · obtain rfl : c = C := by omega
      exact elAt_right (partC_length N x m c) (toAll_at rfl ht)
theorem inTo_length (N : Nat) (ss : List ByteArray) : ∀ n, (inTo N ss n).length = (n * (4 * N)) * 19
  | 0 => by simp [inTo]
  | n + 1 => by
    rw [inTo, List.length_append, inTo_length N ss n, ← partC_four, partC_length, Nat.add_mul n 1, Nat.one_mul, Nat.add_mul]
theorem inTo_at {N : Nat} {ss : List ByteArray} {s c tt : Nat} (hc : c < 4) (ht : tt < N) : ∀ {n : Nat}, s < n → elAt (inTo N ss n) (s * (4 * N) + (c * N + tt)) tt (castC (ss.getD s ByteArray.empty) s c)
  | 0, h => by omega
  | n + 1, h => by
    rw [inTo]
    by_cases e : s < n
    · exact elAt_left (inTo_at hc ht e)
    · obtain rfl : s = n := by omega
      rw [← partC_four]
      exact elAt_right (inTo_length N ss s) (partC_at ht hc)
theorem start_own {N h : Nat} {ss : List ByteArray} {id len t : Nat} (ht : t < h) : elAt (startOf N h ss id len) t t (amsg id 1 (if (h + 1) / 2 ≤ t then notS (ss.getD id ByteArray.empty) else ss.getD id ByteArray.empty)) := by
  have := elAt_left (ys := inTo N ss len) (halves_at (h := h) (lo := amsg id 1 (ss.getD id ByteArray.empty)) (up := amsg id 1 (notS (ss.getD id ByteArray.empty))) rfl rfl ht)
  by_cases e : (h + 1) / 2 ≤ t
  · rw [if_pos e] at this ⊢; exact this
  · rw [if_neg e] at this ⊢; exact this
theorem start_in {N h : Nat} {ss : List ByteArray} {id len s c tt : Nat} (hs : s < len) (hc : c < 4) (ht : tt < N) : elAt (startOf N h ss id len) (h + (s * (4 * N) + (c * N + tt))) tt (castC (ss.getD s ByteArray.empty) s c) :=
  elAt_right (halves_length h _ _ 18 rfl rfl h) (inTo_at hc ht hs)

/-- The cells of message number k in memory. -/
theorem at19_of {w : World} {B : Nat} {o : Option Addr} {n c : Nat} {xs : List Value} {k t : Nat} {sd kd : Int} {v : ByteArray} (hO : w.ownsRow B 53 19 (.slice o n c) n xs) (he : elAt xs k t (amsg sd kd v)) :
    ∃ g, o = some ⟨g, 0, none⟩ ∧ k < n ∧ n ≤ c ∧ w.cell? ⟨g, k * 19, none⟩ = some (.int .i64 t) ∧ w.rangeAt g (k * 19 + 1) (amsg sd kd v) := by
  have hlen := hO.1
  have hk : k < n := by
    have h0 := he 0 _ rfl
    have := (List.getElem?_eq_some_iff.1 h0).1
    omega
  rcases hO.2 with ⟨_, h0⟩ | ⟨g, cap, cur, hv, hb, hg, h1, h2, h3, h4⟩
  · omega
  · obtain ⟨rfl, rfl⟩ : o = some ⟨g, 0, none⟩ ∧ c = cap := by simpa using hv
    have key : ∀ j u, (Value.int .i64 t :: amsg sd kd v)[j]? = some u → w.cell? ⟨g, k * 19 + j, none⟩ = some u := by
      intro j u hu
      have h5 := he j u hu
      rw [← h4, List.getElem?_take] at h5
      rw [cell_of_row w g _ cur 53 (0, 0) hg]
      split at h5
      · simpa using h5
      · cases h5
    refine ⟨g, rfl, hk, h1, key 0 _ rfl, fun j u hu => ?_⟩
    have := key (j + 1) u (by simpa using hu)
    rw [Nat.add_assoc, Nat.add_comm 1 j]; exact this
/-- The load of a struct that lies inside a row, at an operation that is guarded and wanted. -/
theorem wpList_load_midg {P : Program} {ops : Array Oper} {rest : List Oper} {op : Oper} {a : Act} {w : World} {Q : Exit → Act → World → Prop} (hw : Region.wanted op (yielded ops a.tmps) = true) (ty : TypeId) (x : Operand) (ho : op.op = .load ty x)
    (b o : Nat) (hx : a.eval x = .pointer (some ⟨b, o, none⟩)) (cs : List Value) (d : TypeDesc) (hc : w.rangeAt b o cs)
    (hu : P.underlying ty = some d) (hd : d.isRow = true) (hi : (P.info? ty).map (·.size) = some cs.length)
    (h : wpList P ops Q rest (a.put op.dst (.agg cs.toArray)) w) : wpList P ops Q (op :: rest) a w := by
  show if Region.wanted op (yielded ops a.tmps) = true then _ else _
  rw [if_pos hw]
  exact .inl (wp_load_mid ty x ho b o hx cs d hc hu hd hi h)
end Go.Proofs.YbulkxuDoor
