import Derived.Deep.RegionHeld3
/-! A region whose last operation waits for all the others: a condition S on the world, which is asked behind every operation but that last one. -/
namespace Go.Proofs.YbulkxuDoor
set_option linter.all false
section
variable {P : Program} {ops : Array Oper} {Q : Exit → Act → World → Prop} {md : Region.Mode} {S : World → Prop} {last : Nat}

/-- Whatever order is picked from here on, and 'S' holds behind every operation that is carried out, but for the last. -/
def wpAnyK (P : Program) (md : Region.Mode) (ops : Array Oper) (Q : Exit → Act → World → Prop) (S : World → Prop) (last : Nat) : Nat → Array Bool → Act → World → Prop
  | 0, listed, a, w => Region.ready md ops listed = [] ∧ Q .normal a w
  | fuel + 1, listed, a, w =>
    (Region.ready md ops listed = [] → Q .normal a w) ∧
    ∀ i ∈ Region.ready md ops listed, wpOp P ops Q i (fun a' w' => (i ≠ last → S w') ∧ wpAnyK P md ops Q S last fuel (listed.setIfInBounds i true) a' w') a w

theorem wpAny_of_K : ∀ (fuel : Nat) (listed : Array Bool) (a : Act) (w : World), wpAnyK P md ops Q S last fuel listed a w → wpAny P md ops Q fuel listed a w
  | 0, _, _, _, h => h
  | fuel + 1, _, _, _, h => ⟨h.1, fun i hi => wpOp_mono (fun a' w' h' => wpAny_of_K fuel _ a' w' h'.2) (h.2 i hi)⟩

theorem wpAnyK_first {i : Nat} {oi ol : Oper} {v : Value} (hi : ops[i]? = some oi) (hsel : ∀ (j : Nat) (o : Oper) cs b, ops[j]? = some o → o.op ≠ .select cs b)
    (hl : ops[last]? = some ol) (hw : ∃ e ∈ ol.after, Region.binds md e = true ∧ e.on = i)
    (hQ : ∀ c a w, Q (.panic c) (a.put oi.dst v) w → Q (.panic c) a w) :
    ∀ (fuel : Nat) (listed : Array Bool) (a : Act) (w : World),
      (∀ j oj, ops[j]? = some oj → j ≠ i → listed.getD j true = false → (∀ e ∈ oj.after, Region.binds md e = true → e.on ≠ i) → oi.apart ops oj = true) →
      i ∈ Region.ready md ops listed → YieldsIf P ops S oi v a → S w →
      wpAnyK P md ops Q S last fuel (listed.setIfInBounds i true) (a.put oi.dst v) w → wpAnyK P md ops Q S last (fuel + 1) listed a w := by
  intro fuel
  induction fuel with
  | zero =>
    intro listed a w _ hr hy hS H
    refine ⟨fun h => (by rw [h] at hr; cases hr), fun j hj => ?_⟩
    by_cases hji : j = i
    · subst hji; exact hy.wpOp hi hS ⟨fun _ => hS, H⟩
    · have := ready_mono hj hji
      rw [H.1] at this
      cases this
  | succ fuel ih =>
    intro listed a w hfree hr hy hS H
    refine ⟨fun h => (by rw [h] at hr; cases hr), fun j hj => ?_⟩
    by_cases hji : j = i
    · subst hji; exact hy.wpOp hi hS ⟨fun _ => hS, H⟩
    · have h1 := H.2 j (ready_mono hj hji)
      obtain ⟨hjun, oj, hoj, hall⟩ := mem_ready.1 hj
      have hclash : ∀ {o : Oper}, (∀ e ∈ o.after, Region.binds md e = true → listed.getD e.on false = true) → ∀ e ∈ o.after, Region.binds md e = true → e.on ≠ i := fun hall e he hb heq => by
        have h1 := hall e he hb
        have h0 := (mem_ready.1 hr).1
        rw [heq] at h1
        rcases Nat.lt_or_ge i listed.size with h' | h'
        · simp [h'] at h0 h1; rw [h0] at h1; cases h1
        · simp [Array.getElem?_eq_none h'] at h1
      have hjl : j ≠ last := by
        intro e
        subst e
        obtain ⟨e, he, hb, hon⟩ := hw
        rw [hoj] at hl
        cases hl
        exact hclash hall e he hb hon
      have h2 := wpOp_putIf hoj (hfree j oj hoj hji hjun (hclash hall)) (fun cs b => hsel i oi cs b hi) (fun cs b => hsel j oj cs b hoj) hQ hy h1
      have hfree' : ∀ k ok, ops[k]? = some ok → k ≠ i → (listed.setIfInBounds j true).getD k true = false →
          (∀ e ∈ ok.after, Region.binds md e = true → e.on ≠ i) → oi.apart ops ok = true := fun k ok hk hki hun hno => by
        refine hfree k ok hk hki ?_ hno
        by_cases hjk : j = k
        · subst hjk; exact hjun
        · rw [getD_set_ne true hjk] at hun; exact hun
      refine wpOp_mono (fun a' w' h3 => ⟨h3.2.1, ih (listed.setIfInBounds j true) a' w' hfree' (ready_mono hr (Ne.symm hji)) h3.1 (h3.2.1 hjl) ?_⟩) h2
      rw [Array.setIfInBounds_comm _ _ hji]
      exact h3.2.2

/-- Number i is waited for by the last. -/
def waits (md : Region.Mode) (ops : Array Oper) (last i : Nat) : Bool := ((ops[last]?).map (fun o => o.after.toList.any (fun e => Region.binds md e && e.on == i))).getD false
theorem wpAnyK_take {i : Nat} {oi : Oper} {v : Value} {fuel : Nat} {listed : Array Bool} {a : Act} {w : World} (hi : ops[i]? = some oi)
    (hs : Region.noSelect ops = true) (hf : Region.free md ops listed i = true) (hr : (Region.ready md ops listed).contains i = true) (hl : waits md ops last i = true)
    (hQ : ∀ c a w, Q (.panic c) (a.put oi.dst v) w → Q (.panic c) a w) (hy : YieldsIf P ops S oi v a) (hS : S w)
    (h : wpAnyK P md ops Q S last fuel (listed.setIfInBounds i true) (a.put oi.dst v) w) : wpAnyK P md ops Q S last (fuel + 1) listed a w := by
  unfold waits at hl
  cases ho : ops[last]? with
  | none => simp [ho] at hl
  | some ol =>
    rw [ho] at hl
    simp only [Option.map_some, Option.getD_some, List.any_eq_true, Bool.and_eq_true, beq_iff_eq] at hl
    obtain ⟨e, he, hb, hon⟩ := hl
    exact wpAnyK_first hi (Region.noSelect_spec hs) ho ⟨e, by simpa using he, hb, hon⟩ hQ fuel listed a w (Region.free_spec hi hf) (by simpa using hr) hy hS h

theorem opwp_then {o : Oper} {a : Act} {w : World} {K N : Act → World → Prop} (hN : ∀ a w, N a w → K a w) (h : o.wp P a w N (Exit.then K Q)) : o.wp P a w K Q := by
  unfold Oper.wp at *
  generalize (execOp a.eval o).run P w = r at *
  cases r with
  | ok n w' =>
    cases n <;> simp only [Oper.upon] at h ⊢ <;>
      first
        | exact hN _ _ h
        | exact Calls.mono h (fun e w'' he => by cases e <;> first | exact hN _ _ he | exact he)
        | exact Rows.mono h (fun _ _ he => hN _ _ he)
  | halt x w' => cases x <;> simp only [Oper.upon] at h ⊢ <;> exact h
theorem wpOp_of_list {i : Nat} {o : Oper} {a : Act} {w : World} {K : Act → World → Prop} (ho : ops[i]? = some o) (h : wpList P ops (Exit.then K Q) [o] a w) : wpOp P ops Q i K a w := by
  unfold wpOp
  rw [ho]
  simp only [wpList] at h
  show if Region.wanted o (yielded ops a.tmps) = true then _ else _
  split
  · rename_i hw
    rw [if_pos hw] at h
    rcases h with h | h
    · exact .inl (opwp_then (fun _ _ h => h) h)
    · exact .inr ⟨h.1, h.2⟩
  · rename_i hw
    rw [if_neg hw] at h
    exact h

/-- One alone may come up, and it is not the last. -/
theorem wpAnyK_one {i : Nat} {o : Oper} {fuel : Nat} {listed : Array Bool} {a : Act} {w : World} (hr : Region.ready md ops listed = [i]) (ho : ops[i]? = some o) 
    (h : ∀ K : Act → World → Prop, Shut (∀ a w, S w → wpAnyK P md ops Q S last fuel (listed.setIfInBounds i true) a w → K a w) → wpList P ops (Exit.then K Q) [o] a w) : wpAnyK P md ops Q S last (fuel + 1) listed a w := by
  refine ⟨fun h0 => (by rw [hr] at h0; cases h0), fun j hj => ?_⟩
  rw [hr] at hj
  obtain rfl := List.mem_singleton.1 hj
  exact wpOp_of_list ho (h _ (fun a w hS hK => ⟨fun _ => hS, hK⟩))
/-- The last alone is left. -/
theorem wpAnyK_last {o : Oper} {fuel : Nat} {listed : Array Bool} {a : Act} {w : World} (hr : Region.ready md ops listed = [last]) (ho : ops[last]? = some o) (hr2 : Region.ready md ops (listed.setIfInBounds last true) = [])
    (h : ∀ K : Act → World → Prop, Shut (∀ a w, Q .normal a w → K a w) → wpList P ops (Exit.then K Q) [o] a w) : wpAnyK P md ops Q S last (fuel + 1) listed a w := by
  refine ⟨fun h0 => (by rw [hr] at h0; cases h0), fun j hj => ?_⟩
  rw [hr] at hj
  obtain rfl := List.mem_singleton.1 hj
  refine wpOp_of_list ho (h _ (fun a w hQ => ⟨fun hne => absurd rfl hne, ?_⟩))
  cases fuel with
  | zero => exact ⟨hr2, hQ⟩
  | succ f => exact ⟨fun _ => hQ, fun i hi => (by rw [hr2] at hi; cases hi)⟩
/-- The beginning. -/
theorem wp_region_K {id : Nat} {a : Act} {w : World} (S : World → Prop) (last : Nat) (hm : P.follows .mixedOrders = true) (hS : S w.drew)
    (h : S w.drew → wpAnyK P .any ops Q S last ops.size (Array.replicate ops.size false) a w.drew) : (Code.region id ops true).wp P Q a w :=
  wp_region_any hm (wpAny_of_K _ _ _ _ (h hS))
end
end Go.Proofs.YbulkxuDoor
