import Derived.Test.YbulkzkRows
/-! Plain laws on binary heaps: no Go in sight. -/
namespace Go.Proofs.Ybulkzk
set_option linter.all false

/-- The heap order on the first n places. -/
def HeapTo (a : Nat → Int) (n : Nat) : Prop := ∀ k, 0 < k → k < n → a ((k - 1) / 2) ≤ a k
/-- a with the places i and j exchanged. -/
def swp (a : Nat → Int) (i j k : Nat) : Int := if k = i then a j else if k = j then a i else a k
def UpInv (a : Nat → Int) (n j : Nat) : Prop := (∀ k, 0 < k → k < n → k ≠ j → a ((k - 1) / 2) ≤ a k) ∧ (∀ k, 0 < k → k < n → (k - 1) / 2 = j → 0 < j → a ((j - 1) / 2) ≤ a k)
def DownInv (a : Nat → Int) (n i : Nat) : Prop := (∀ k, 0 < k → k < n → (k - 1) / 2 ≠ i → a ((k - 1) / 2) ≤ a k) ∧ (∀ k, 0 < k → k < n → (k - 1) / 2 = i → 0 < i → a ((i - 1) / 2) ≤ a k)

theorem up_done {a : Nat → Int} {n j : Nat} (h : UpInv a n j) (hj : j = 0 ∨ ¬ a j < a ((j - 1) / 2)) : HeapTo a n := by
  intro k h0 hk
  by_cases e : k = j
  · subst e
    rcases hj with h | h
    · omega
    · omega
  · exact h.1 k h0 hk e
theorem up_step {a : Nat → Int} {n j : Nat} (h : UpInv a n j) (hj0 : 0 < j) (hj : j < n) (hl : a j < a ((j - 1) / 2)) : UpInv (swp a ((j - 1) / 2) j) n ((j - 1) / 2) := by
  obtain ⟨h1, h2⟩ := h
  obtain ⟨i, hi⟩ : ∃ i, i = (j - 1) / 2 := ⟨_, rfl⟩
  rw [← hi] at hl ⊢
  have hij : i < j := by omega
  constructor
  · intro k k0 kn ki
    unfold swp
    by_cases kj : k = j
    · subst kj
      rw [← hi, if_pos rfl, if_neg ki, if_pos rfl]; omega
    · rw [if_neg ki, if_neg kj]
      by_cases p1 : (k - 1) / 2 = i
      · rw [if_pos p1]
        have := h1 k k0 kn kj
        rw [p1] at this; omega
      · rw [if_neg p1]
        by_cases p2 : (k - 1) / 2 = j
        · rw [if_pos p2]
          have := h2 k k0 kn p2 hj0
          rw [← hi] at this; exact this
        · rw [if_neg p2]; exact h1 k k0 kn kj
  · intro k k0 kn kp i0
    unfold swp
    have e1 : (i - 1) / 2 ≠ i := by omega
    have e2 : (i - 1) / 2 ≠ j := by omega
    have ki : k ≠ i := by omega
    rw [if_neg e1, if_neg e2, if_neg ki]
    have h3 := h1 i i0 (by omega) (by omega)
    by_cases kj : k = j
    · rw [if_pos kj]; exact h3
    · rw [if_neg kj]
      have := h1 k k0 kn kj
      rw [kp] at this; omega
theorem down_done {a : Nat → Int} {n i : Nat} (h : DownInv a n i) (hd : ∀ k, k < n → k = 2 * i + 1 ∨ k = 2 * i + 2 → a i ≤ a k) : HeapTo a n := by
  intro k h0 hk
  by_cases e : (k - 1) / 2 = i
  · rw [e]; exact hd k hk (by omega)
  · exact h.1 k h0 hk e
theorem down_step {a : Nat → Int} {n i j : Nat} (h : DownInv a n i) (hj : j = 2 * i + 1 ∨ j = 2 * i + 2) (hjn : j < n) (hl : a j < a i) (hs : ∀ k, k < n → k = 2 * i + 1 ∨ k = 2 * i + 2 → a j ≤ a k) : DownInv (swp a i j) n j := by
  obtain ⟨h1, h2⟩ := h
  have hij : i < j := by omega
  have hpj : (j - 1) / 2 = i := by omega
  constructor
  · intro k k0 kn kp
    unfold swp
    by_cases p1 : (k - 1) / 2 = i
    · have ki : k ≠ i := by omega
      rw [if_pos p1, if_neg ki]
      by_cases kj : k = j
      · rw [if_pos kj]; omega
      · rw [if_neg kj]; exact hs k kn (by omega)
    · rw [if_neg p1, if_neg kp]
      have kj : k ≠ j := by intro e; rw [e] at p1; exact p1 hpj
      by_cases ki : k = i
      · subst ki
        rw [if_pos rfl]; exact h2 j (by omega) hjn hpj k0
      · rw [if_neg ki, if_neg kj]; exact h1 k k0 kn p1
  · intro k k0 kn kp j0
    unfold swp
    have ki : k ≠ i := by omega
    have kj : k ≠ j := by omega
    rw [hpj, if_pos rfl, if_neg ki, if_neg kj]
    have := h1 k k0 kn (by omega)
    rw [kp] at this; exact this
theorem heap_root {a : Nat → Int} {n : Nat} (h : HeapTo a n) : ∀ k, k < n → a 0 ≤ a k := by
  intro k
  induction k using Nat.strongRecOn with
  | ind k ih =>
    intro hk
    by_cases e : k = 0
    · rw [e]; exact Int.le_refl _
    · have h1 := ih ((k - 1) / 2) (by omega) (by omega)
      have h2 := h k (by omega) hk
      omega
theorem down_start {a : Nat → Int} {m : Nat} (h : HeapTo a (m + 1)) : DownInv (swp a 0 m) m 0 := by
  constructor
  · intro k k0 kn kp
    unfold swp
    rw [if_neg kp, if_neg (by omega), if_neg (by omega), if_neg (by omega)]
    exact h k k0 (by omega)
  · intro k _ _ _ h0; omega
theorem up_start {a b : Nat → Int} {n : Nat} (h : HeapTo a n) (hb : ∀ k, k < n → b k = a k) : UpInv b (n + 1) n := by
  constructor
  · intro k k0 kn ke
    rw [hb _ (by omega), hb _ (by omega)]; exact h k k0 (by omega)
  · intro k k0 kn kp; omega
theorem heap_less {a b : Nat → Int} {n : Nat} (h : HeapTo a n) (hb : ∀ k, k < n → b k = a k) : HeapTo b n := by
  intro k k0 kn
  rw [hb _ (by omega), hb _ (by omega)]; exact h k k0 kn

/-- L with two places exchanged. -/
def lsw (L : List Nat) (i j : Nat) : List Nat := (L.set i (L.getD j 0)).set j (L.getD i 0)
theorem lsw_length (L : List Nat) (i j : Nat) : (lsw L i j).length = L.length := by simp [lsw]
theorem lsw_perm (L : List Nat) (i j : Nat) (hi : i < L.length) (hj : j < L.length) : (lsw L i j).Perm L := by
  have := List.set_set_perm hi hj
  simpa [lsw, List.getD, hi, hj] using this
theorem lsw_at (L : List Nat) (i j k : Nat) (hi : i < L.length) (hj : j < L.length) : (lsw L i j).getD k 0 = if k = i then L.getD j 0 else if k = j then L.getD i 0 else L.getD k 0 := by
  simp only [lsw, List.getD, List.getElem?_set, List.length_set]
  by_cases kj : k = j
  · subst kj
    by_cases ki : k = i
    · subst ki; simp [hj]
    · simp [hj, ki]
  · have jk : ¬ j = k := fun e => kj e.symm
    by_cases ki : k = i
    · subst ki; simp [hi, jk, kj]
    · have ik : ¬ i = k := fun e => ki e.symm
      simp [ki, kj, jk, ik]
theorem lsw_key (key : Nat → Int) (L : List Nat) (i j : Nat) (hi : i < L.length) (hj : j < L.length) : (fun k => key ((lsw L i j).getD k 0)) = swp (fun k => key (L.getD k 0)) i j := by
  funext k
  simp only [lsw_at L i j k hi hj, swp]
  split
  · rfl
  · split <;> rfl
end Go.Proofs.Ybulkzk
