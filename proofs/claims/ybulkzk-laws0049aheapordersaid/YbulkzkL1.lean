import Derived.Test.YbulkzkHp
import Derived.Test.YbulkzkHu
namespace Go.Proofs.Ybulkzk
open Go.RowKit
set_option linter.all false

theorem Q.congr {id key id' key' : Nat → Int} {B vb : Nat} {v : Value} {L : List Nat} {w : World} (h : Q id key B vb v L w) (h1 : ∀ e ∈ L, id' e = id e) (h2 : ∀ e ∈ L, key' e = key e) : Q id' key' B vb v L w :=
  ⟨h.var, h.row, fun e he => by obtain ⟨x, hx⟩ := h.ents e he; exact ⟨x, by rw [h1 e he, h2 e he]; exact hx⟩, h.nodup, h.d1, h.d2⟩
theorem Q.own_lt {id key : Nat → Int} {B vb : Nat} {v : Value} {L : List Nat} {w : World} (h : Q id key B vb v L w) {k : Nat} (hk : v.ownBlock = some k) : k < w.heap.size ∧ B ≤ k := by
  rcases h.row.2 with ⟨rfl, _⟩ | ⟨q, cap, cur, hv, hb, hg, h1⟩
  · cases hk
  · rw [hv] at hk; cases hk; exact ⟨BlkIs.lt hg, hb⟩
theorem Q.chg {id key : Nat → Int} {B vb : Nat} {v : Value} {L : List Nat} {w w' : World} {S : Nat → Prop} (h : Q id key B vb v L w) (g : Chg S w w') (hs : ∀ k, QB vb v L k → ¬ S k) : Q id key B vb v L w' := by
  refine ⟨h.var.chg g (hs _ (.inl rfl)), ⟨h.row.1, ?_⟩, fun e he => by obtain ⟨x, hx⟩ := h.ents e he; exact ⟨x, hx.chg g (hs _ (.inr (.inr he)))⟩, h.nodup, h.d1, h.d2⟩
  rcases h.row.2 with h0 | ⟨q, cap, cur, hv, hb, hg, h1⟩
  · exact .inl h0
  · exact .inr ⟨q, cap, cur, hv, hb, BlkIs.chg hg g (hs _ (.inr (.inl (by rw [hv]; rfl)))), h1⟩

def up1 (f : Nat → Int) (e : Nat) (z : Int) : Nat → Int := fun x => if x = e then z else f x
theorem up1_same (f : Nat → Int) (e : Nat) (z : Int) : up1 f e z e = z := by simp [up1]
theorem up1_other (f : Nat → Int) (e : Nat) (z : Int) {x : Nat} (h : x ≠ e) : up1 f e z x = f x := by simp [up1, h]

/-- The first loop: k entries are pushed. -/
structure S1 (w : World) (k : Nat) (L : List Nat) (v : Value) (id key : Nat → Int) (wr : World) : Prop where
  len : L.length = k
  q : Q id key w.heap.size w.heap.size v L wr
  heap : HeapTo (fun k => key (L.getD k 0)) L.length
  ids : ∀ e ∈ L, 1 ≤ id e ∧ id e ≤ k
  inj : ∀ e ∈ L, ∀ f ∈ L, id e = id f → e = f
  low : ∀ e ∈ L, w.heap.size ≤ e
  below : Below w.heap.size w wr

theorem S1.push {w : World} {k : Nat} {L : List Nat} {v : Value} {id key : Nat → Int} {wr w1 : World} (s : S1 w k L v id key wr) (g : wr.grownBy w1 none) (z : Int) (hk : k < 1024) :
    Calls Yba.prog 7 #[.iface 43 (.pointer (some ⟨w.heap.size, 0, none⟩)), .iface 25 (.pointer (some ⟨w1.heap.size, 0, none⟩))] (w1.alloc (.cells (entc ((k : Int) + 1) z 0) 35)) fun e w' => e = .returned (.tuple #[]) ∧
      ∃ L' v' id' key', S1 w (k + 1) L' v' id' key' w' := by
  obtain ⟨eb, heb⟩ : ∃ eb, eb = w1.heap.size := ⟨_, rfl⟩
  have hq1 := s.q.gb g
  have hlt : ∀ e ∈ L, e < eb := by
    intro e he
    obtain ⟨x, hx⟩ := hq1.ents e he
    have := hx.lt; omega
  have hvb : w.heap.size < eb := by have := hq1.var.lt; omega
  have hob : v.ownBlock ≠ some eb := by
    intro e
    have := (hq1.own_lt e).1; omega
  have hni : eb ∉ L := fun h => by have := hlt eb h; omega
  have hid : ∀ e ∈ L, up1 id eb ((k : Int) + 1) e = id e := fun e he => up1_other _ _ _ (by have := hlt e he; omega)
  have hkey : ∀ e ∈ L, up1 key eb z e = key e := fun e he => up1_other _ _ _ (by have := hlt e he; omega)
  have hq2 : Q (up1 id eb ((k : Int) + 1)) (up1 key eb z) w.heap.size w.heap.size v L (w1.alloc (.cells (entc ((k : Int) + 1) z 0) 35)) := (hq1.congr hid hkey).gb (World.grownBy_alloc _ _ _)
  have hh : HeapTo (fun k => up1 key eb z (L.getD k 0)) L.length := heap_less s.heap (fun i hi => hkey _ (getD_mem hi))
  have he : BlkIs (w1.alloc (.cells (entc ((k : Int) + 1) z 0) 35)) eb (entc (up1 id eb ((k : Int) + 1) eb) (up1 key eb z eb) 0) 35 := by
    rw [up1_same, up1_same]; exact BlkIs.newAt heb.symm _ _
  rw [← heb]
  refine (pushH hq2 hh (by rw [s.len]; exact hk) (by simp; omega) eb 0 he (by omega) hob hni).mono ?_
  rintro e w3 ⟨rfl, v3, L3, hp, hh3, hq3, hv3, hc3⟩
  have hmem : ∀ e, e ∈ L3 → e = eb ∨ e ∈ L := fun e he => List.mem_cons.1 (hp.mem_iff.1 he)
  refine ⟨rfl, L3, v3, _, _, ?_, hq3, hh3, ?_, ?_, ?_, ?_⟩
  · rw [hp.length_eq, List.length_cons, s.len]
  · intro e he
    rcases hmem e he with rfl | h
    · rw [up1_same]; omega
    · rw [hid e h]; have := s.ids e h; omega
  · intro e he f hf hef
    rcases hmem e he with rfl | h1
    · rcases hmem f hf with rfl | h2
      · rfl
      · rw [up1_same, hid f h2] at hef
        have := s.ids f h2; omega
    · rcases hmem f hf with rfl | h2
      · rw [up1_same, hid e h1] at hef
        have := s.ids e h1; omega
      · rw [hid e h1, hid f h2] at hef
        exact s.inj e h1 f h2 hef
  · intro e he
    rcases hmem e he with rfl | h
    · omega
    · exact s.low e h
  · have b1 := gb_below (B := w.heap.size) g (by have := s.q.var.lt; omega) (fun k e => by cases e)
    have b2 : Below w.heap.size w1 (w1.alloc (.cells (entc ((k : Int) + 1) z 0) 35)) := gb_below (World.grownBy_alloc _ _ none) (by omega) (fun k e => by cases e)
    refine ((s.below.trans b1).trans b2).trans (hc3.below (by simp; omega) ?_)
    rintro k (rfl | h | h)
    · exact Nat.le_refl _
    · exact (hq2.own_lt h).2
    · rcases List.mem_append.1 h with h | h
      · exact s.low k h
      · obtain rfl := List.mem_singleton.1 h; omega

def bools (bs : List Bool) : Array Value := (bs.map Value.bool).toArray
/-- The second loop: k entries are popped. -/
structure S2 (w : World) (n sb pb k : Nat) (L : List Nat) (v : Value) (id key : Nat → Int) (bs : List Bool) (p : Int) (wr : World) : Prop where
  len : L.length + k = n
  q : Q id key w.heap.size w.heap.size v L wr
  heap : HeapTo (fun k => key (L.getD k 0)) L.length
  ids : ∀ e ∈ L, 1 ≤ id e ∧ id e ≤ n
  inj : ∀ e ∈ L, ∀ f ∈ L, id e = id f → e = f
  low : ∀ e ∈ L, w.heap.size ≤ e
  seen : BlkIs wr sb (bools bs) 4
  blen : bs.length = n
  unseen : ∀ e ∈ L, bs[(id e - 1).toNat]? = some false
  prev : BlkIs wr pb (tm p) 33
  least : 0 < k → ∀ e ∈ L, p ≤ key e
  dif : sb ≠ pb
  ds : ¬ QB w.heap.size v L sb
  dp : ¬ QB w.heap.size v L pb
  ls : w.heap.size ≤ sb
  lp : w.heap.size ≤ pb
  below : Below w.heap.size w wr

/-- What a pop leaves. -/
structure P2 (w : World) (n sb pb k : Nat) (R : List Nat) (eb : Nat) (v : Value) (id key : Nat → Int) (bs : List Bool) (p : Int) (wr : World) : Prop where
  len : R.length + (k + 1) = n
  q : Q id key w.heap.size w.heap.size v R wr
  heap : HeapTo (fun k => key (R.getD k 0)) R.length
  ids : ∀ e ∈ R, 1 ≤ id e ∧ id e ≤ n
  inj : ∀ e ∈ R, ∀ f ∈ R, id e = id f → e = f
  low : ∀ e ∈ R, w.heap.size ≤ e
  seen : BlkIs wr sb (bools bs) 4
  blen : bs.length = n
  unseen : ∀ e ∈ R, bs[(id e - 1).toNat]? = some false
  prev : BlkIs wr pb (tm p) 33
  dif : sb ≠ pb
  ds : ¬ QB w.heap.size v R sb
  dp : ¬ QB w.heap.size v R pb
  ls : w.heap.size ≤ sb
  lp : w.heap.size ≤ pb
  below : Below w.heap.size w wr
  ent : BlkIs wr eb (entc (id eb) (key eb) (-1)) 35
  eid : 1 ≤ id eb ∧ id eb ≤ n
  eun : bs[(id eb - 1).toNat]? = some false
  edif : ∀ e ∈ R, id e ≠ id eb
  eleast : 0 < k → p ≤ key eb
  emin : ∀ e ∈ R, key eb ≤ key e
  es : eb ≠ sb
  ep : eb ≠ pb

theorem S2.pop {w : World} {n sb pb k : Nat} {L : List Nat} {v : Value} {id key : Nat → Int} {bs : List Bool} {p : Int} {wr : World} (s : S2 w n sb pb k L v id key bs p wr) (hk : k < n) (hn : n ≤ 1024) :
    Calls Yba.prog 8 #[.iface 43 (.pointer (some ⟨w.heap.size, 0, none⟩))] wr fun e w' => ∃ eb v' R, e = .returned (.iface 25 (.pointer (some ⟨eb, 0, none⟩))) ∧ P2 w n sb pb k R eb v' id key bs p w' := by
  have hlen := s.len
  refine (popH s.q (by omega) (by omega) s.heap).mono ?_
  rintro e w1 ⟨eb, v1, R, rfl, hp, hmin, hh, hv, hq, he, hc⟩
  have hm : eb ∈ L := hp.mem_iff.2 (List.mem_cons_self ..)
  have hs : ∀ e ∈ R, e ∈ L := fun e he => hp.mem_iff.2 (List.mem_cons_of_mem _ he)
  have hnd : (eb :: R).Nodup := hp.nodup_iff.1 s.q.nodup
  have hqb : ∀ k, QB w.heap.size v1 R k → QB w.heap.size v L k := by
    rintro k (h | h | h)
    · exact .inl h
    · exact .inr (.inl (by rw [← hv]; exact h))
    · exact .inr (.inr (hs k h))
  refine ⟨eb, v1, R, rfl, ?_⟩
  exact {
    len := by have := hp.length_eq; rw [List.length_cons] at this; omega
    q := hq
    heap := hh
    ids := fun e he => s.ids e (hs e he)
    inj := fun e he f hf => s.inj e (hs e he) f (hs f hf)
    low := fun e he => s.low e (hs e he)
    seen := s.seen.chg hc s.ds
    blen := s.blen
    unseen := fun e he => s.unseen e (hs e he)
    prev := s.prev.chg hc s.dp
    dif := s.dif
    ds := fun h => s.ds (hqb _ h)
    dp := fun h => s.dp (hqb _ h)
    ls := s.ls
    lp := s.lp
    below := s.below.trans (hc.below (by have := s.q.var.lt; omega) (by
      rintro k (rfl | h | h)
      · exact Nat.le_refl _
      · exact (s.q.own_lt h).2
      · exact s.low k h))
    ent := he
    eid := s.ids eb hm
    eun := s.unseen eb hm
    edif := fun e hm' h => by
      have := s.inj e (hs e hm') eb hm h
      rw [this] at hm'
      exact (List.nodup_cons.1 hnd).1 hm'
    eleast := fun h0 => s.least h0 eb hm
    emin := fun e he => hmin e (hs e he)
    es := fun e => s.ds (.inr (.inr (e ▸ hm)))
    ep := fun e => s.dp (.inr (.inr (e ▸ hm))) }

theorem P2.next {w : World} {n sb pb k : Nat} {R : List Nat} {eb : Nat} {v : Value} {id key : Nat → Int} {bs : List Bool} {p : Int} {wr w2 : World} (s : P2 w n sb pb k R eb v id key bs p wr)
    (hc : Chg (fun k => k = sb ∨ k = pb) wr w2) (h1 : BlkIs w2 sb (bools (bs.set (id eb - 1).toNat true)) 4) (h2 : BlkIs w2 pb (tm (key eb)) 33) :
    S2 w n sb pb (k + 1) R v id key (bs.set (id eb - 1).toNat true) (key eb) w2 where
  len := s.len
  q := s.q.chg hc (by
    rintro k h (e | e)
    · rw [e] at h; exact s.ds h
    · rw [e] at h; exact s.dp h)
  heap := s.heap
  ids := s.ids
  inj := s.inj
  low := s.low
  seen := h1
  blen := by simp [s.blen]
  unseen := fun e he => by
    rw [List.getElem?_set, if_neg]
    · exact s.unseen e he
    · have := s.edif e he
      have := s.ids e he
      have := s.eid
      omega
  prev := h2
  least := fun _ => s.emin
  dif := s.dif
  ds := s.ds
  dp := s.dp
  ls := s.ls
  lp := s.lp
  below := s.below.trans (hc.below (by have := s.q.var.lt; omega) (by
    rintro k (rfl | rfl)
    · exact s.ls
    · exact s.lp))
end Go.Proofs.Ybulkzk
