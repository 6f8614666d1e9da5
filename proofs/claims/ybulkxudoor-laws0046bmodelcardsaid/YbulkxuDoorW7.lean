import Derived.Test.YbulkxuDoorW6
namespace Go.Proofs.YbulkxuDoor
open Go.RowKit
set_option linter.all false

/-- A block that is known whole. -/
def BlkIs (w : World) (b : Nat) (cs : Array Value) (t : TypeId) : Prop := w.heap[b]? = some (.cells cs t (0, 0))
theorem BlkIs.cells {w : World} {b : Nat} {cs : Array Value} {t : TypeId} (h : BlkIs w b cs t) : ∀ o, w.cell? ⟨b, o, none⟩ = cs[o]? := fun o => cell_of_row w b o _ _ _ h
theorem BlkIs.lt {w : World} {b : Nat} {cs : Array Value} {t : TypeId} (h : BlkIs w b cs t) : b < w.heap.size := (Array.getElem?_eq_some_iff.1 h).1
theorem BlkIs.gb {w w' : World} {b : Nat} {cs : Array Value} {t : TypeId} {r : Option Nat} (h : BlkIs w b cs t) (g : w.grownBy w' r) (ne : some b ≠ r) : BlkIs w' b cs t := (g.block b h.lt ne).trans h
theorem BlkIs.gbn {w w' : World} {b : Nat} {cs : Array Value} {t : TypeId} (h : BlkIs w b cs t) (g : w.grownBy w' none) : BlkIs w' b cs t := h.gb g (by simp)
theorem BlkIs.alloc {w : World} {b : Nat} {cs : Array Value} {t : TypeId} (h : BlkIs w b cs t) (o : Obj) : BlkIs (w.alloc o) b cs t := h.gbn (World.grownBy_alloc w o none)
theorem BlkIs.drew {w : World} {b : Nat} {cs : Array Value} {t : TypeId} (h : BlkIs w b cs t) : BlkIs w.drew b cs t := h
theorem BlkIs.new (w : World) (cs : Array Value) (t : TypeId) : BlkIs (w.alloc (.cells cs t)) w.heap.size cs t := heap_alloc_new w _

theorem step_any (b : Int) (d : Bool) (w : World) : Calls Ybad.prog 21 #[.int .i64 b, .bool d] w fun e w' => e = .returned (.string (stepS b d)) ∧ w.grownBy w' none := by
  cases d
  · exact step_no b w
  · exact step_yes b w

theorem step_sub (b : Int) (d : Bool) (w : World) : Calls Ybad.prog 21 #[.int .i64 (IntKind.i64.wrap (1 - b)), .bool d] w fun e w' => e = .returned (.string (stepS (1 - b) d)) ∧ w.grownBy w' none := by
  refine (step_any _ d w).mono ?_
  rintro e w' ⟨rfl, g⟩
  refine ⟨?_, g⟩
  have e : stepS (IntKind.i64.wrap (1 - b)) d = stepS (1 - b) d := by
    unfold stepS byteStr
    cases d
    · have : IntKind.i64.wrap (1 - b) % 256 = (1 - b) % 256 := by rw [IntKind.wrap_i64]; omega
      simp [this]
    · have : (IntKind.i64.wrap (1 - b) + 2) % 256 = (1 - b + 2) % 256 := by rw [IntKind.wrap_i64]; omega
      simp [this]
  rw [e]
theorem tab_drew {B : Nat} {w : World} (h : Tab B w) : Tab B w.drew := h.on (Below.refl B w).drew
theorem own_gbn {w w' : World} {B e size : Nat} {v : Value} {n : Nat} {xs : List Value} (h : w.ownsRow B e size v n xs) (g : w.grownBy w' none) : w'.ownsRow B e size v n xs :=
  h.kept g (by cases v.ownBlock <;> simp)
theorem tab_of {B eb : Nat} {w w' : World} (h : Tab B w) (g : w.grownBy w' (some eb)) (hB : B ≤ w.heap.size) (he : B ≤ eb) : Tab B w' := h.gb g hB (fun k e => by cases e; exact he)
theorem bndc {j h n i sd : Nat} (hj : j ≤ 10) (hn : n ≤ 100) (hh : h ≤ 100) (hi : i ≤ 3) (hs : sd ≤ n) : j * (3 * (h + n * (4 * n))) + i * (h + n * (4 * n)) + h + sd * (4 * n) + 4 * n ≤ 10000000 := by
  have a0 : n * (4 * n) ≤ 100 * (4 * 100) := Nat.mul_le_mul hn (Nat.mul_le_mul_left 4 hn)
  have a1 : j * (3 * (h + n * (4 * n))) ≤ 10 * (3 * 40100) := Nat.mul_le_mul hj (by omega)
  have a2 : i * (h + n * (4 * n)) ≤ 3 * 40100 := Nat.mul_le_mul hi (by omega)
  have a3 : sd * (4 * n) ≤ 100 * (4 * 100) := Nat.mul_le_mul (by omega) (Nat.mul_le_mul_left 4 hn)
  omega

/-- 'abaCast', its cells written out. -/
theorem abaCast_lit (s : ByteArray) (a b c k : Int) (v : ByteArray) (hs : s.size ≤ 100000) (ha0 : -9223372036854775808 ≤ a) (ha1 : a ≤ 9223372036854775807)  (hb0 : -9223372036854775808 ≤ b) (hb1 : b ≤ 9223372036854775807) (hc0 : -9223372036854775808 ≤ c) (hc1 : c ≤ 9223372036854775807) {B : Nat} (w : World) (hT : Tab B w) (hB : B ≤ w.heap.size) :
    Calls Ybad.prog 22 #[.string s, .int .i64 a, .int .i64 b, .int .i64 c, .int .u8 k, .string v] w fun e w' => e = .returned (.agg #[.string s, .int .i64 a, .int .u8 1, .string (castSess s a b c), .int .u8 k, .string v, .string ⟨#[]⟩, .int .u8 0, .slice none 0 0, .string ⟨#[]⟩, .int .u8 0, .string ⟨#[]⟩, .int .i64 0]) ∧ w.grownBy w' none :=
  abaCast_any s a b c k v hs ha0 ha1 hb0 hb1 hc0 hc1 w hT hB

/-- What holds behind a message made and sent to all. -/
theorem after_all {w W w6 w7 : World} {M : Obj} {eb kb vb : Nat} {E K V : Array Value} {ov v7 : Value} (g0 : w.grownBy W (some eb)) (bE : BlkIs W eb E 63) (bK : BlkIs W kb K 40) (bV : BlkIs W vb V 9)
    (hown : ∀ i, ov.ownBlock = some i → w.heap.size ≤ i) (le : eb < w.heap.size) (nK : some kb ≠ ov.ownBlock) (nV : some vb ≠ ov.ownBlock) (g6 : W.drew.grownBy w6 none) (g7 : (w6.alloc M).grownBy w7 ov.ownBlock)
    (at7 : v7.ownBlock = ov.ownBlock ∨ ∃ g, v7.ownBlock = some g ∧ (w6.alloc M).heap.size ≤ g) :
    w.grownBy w7 (some eb) ∧ BlkIs w7 eb E 63 ∧ BlkIs w7 kb K 40 ∧ BlkIs w7 vb V 9 ∧ some kb ≠ v7.ownBlock ∧ some vb ≠ v7.ownBlock := by
  have nE : some eb ≠ ov.ownBlock := fun e => by have := hown eb e.symm; omega
  refine ⟨?_, ?_, ?_, ?_, ?_, ?_⟩
  · exact gb_trans (gb_none (gb_none g0 (gb_undrew g6)) (World.grownBy_alloc _ _ none)) g7 (fun i e hi => by have := hown i e; omega)
  · exact ((bE.gbn (gb_undrew g6)).alloc _).gb g7 nE
  · exact ((bK.gbn (gb_undrew g6)).alloc _).gb g7 nK
  · exact ((bV.gbn (gb_undrew g6)).alloc _).gb g7 nV
  · rcases at7 with h | ⟨g, h, hg⟩
    · rw [h]; exact nK
    · rw [h]; intro e; cases e; have := ((bK.gbn (gb_undrew g6)).alloc M).lt; omega
  · rcases at7 with h | ⟨g, h, hg⟩
    · rw [h]; exact nV
    · rw [h]; intro e; cases e; have := ((bV.gbn (gb_undrew g6)).alloc M).lt; omega
theorem ne_of_lt_own {w : World} {B e size : Nat} {v : Value} {n : Nat} {xs : List Value} (h : w.ownsRow B e size v n xs) {b : Nat} (hb : w.heap.size ≤ b) : some b ≠ v.ownBlock := fun e => by have := (h.lt b e.symm).2; omega

set_option maxRecDepth 100000 in
set_option maxHeartbeats 8000000 in
theorem reach_c (s : ByteArray) (n h : Nat) (id inp r k : Int) (eb B : Nat) (w : World) (d : Nat) (hd : d ≤ 10) (hn : n ≤ 100) (hh : h ≤ 100) (hk : d = (k - r).toNat) (hs : s.size ≤ 100000)
    (hr0 : -9223372036854775808 ≤ r) (hr1 : r + 1 ≤ 9223372036854775807) (hk0 : -9223372036854775808 ≤ k) (hk1 : k + 1 ≤ 9223372036854775807)
    (hi0 : -9223372036854775808 ≤ id) (hi1 : id ≤ 9223372036854775807) (hB : B ≤ eb) (hT : Tab B w)
    (hE : w.heap[eb]? = some (.cells (eqv s n h id inp false r) 63)) :
    Calls Ybad.prog 10 #[.pointer (some ⟨eb, 0, none⟩), .int .i64 k] w fun e w' => ∃ v', e = .returned v' ∧ w'.ownsRow w.heap.size 83 14 v' (d * (3 * (h + n * (4 * n)))) (iters s n h id inp false r d) ∧ w.grownBy w' (some eb) ∧ w'.heap[eb]? = some (.cells (eqv s n h id inp false (r + d)) 63) := by
  have hrd : r + d + 1 ≤ 9223372036854775807 := by omega
  have HK : Hid (d = (k - r).toNat) := hk
  have HE : Hid (_ = _) := hE
  have HT : Hid (Tab B w) := hT
  have hBs : Hid (B ≤ w.heap.size) := by have := (Array.getElem?_eq_some_iff.1 hE).1; exact show B ≤ w.heap.size by omega
  clear hk hE hT
  go_enter Ybad.func10, Ybad.ntmps10
  go_wp2_with fail
  go_loopw [5] (fun ov wr => ∃ j : Nat, j ≤ d ∧ wr.ownsRow w.heap.size 83 14 ov (j * (3 * (h + n * (4 * n)))) (iters s n h id inp false r j) ∧ w.grownBy wr (some eb) ∧ wr.heap[eb]? = some (.cells (eqv s n h id inp false (r + j)) 63)) (fun _ wr => d - (reachedOf wr eb - r).toNat)
  case atStart => 
    refine ⟨0, Nat.zero_le _, ?_, gb_refl _ _, by simpa using HE.out⟩
    simpa [iters] using World.ownsRow_nil _ _ _ _
  case round =>
    obtain ⟨j, hj, ho, hg, he⟩ := hrel
    have HO : Hid (wr.ownsRow _ _ _ _ _ _) := ho
    have HG : Hid (w.grownBy _ _) := hg
    have HEr : BlkIs wr eb _ _ := he
    have leb : eb < wr.heap.size := HEr.lt
    have ce := HEr.cells
    unfold eqv at ce
    clear ho hg he
    by_cases hlt : j < d
    · have hlt' : r + j < k := by have := HK.out; omega
      have ROo : Hid (reachedOf wr eb = r + j) := reachedOf_eq HEr
      go_wp2_with fail
      refine wp_loop_rounds 1 ?_
      rw [rounds_succ]
      go_wp2_with fail
      obtain ⟨wo, rfl⟩ : ∃ wo : World, wo = wr := ⟨_, rfl⟩
      go_loopw [5, 10] (fun ov xv wr => ∃ i : Nat, i ≤ 3 ∧ xv = .int .i64 ((i : Int) + 1) ∧ wr.ownsRow w.heap.size 83 14 ov (j * (3 * (h + n * (4 * n))) + i * (h + n * (4 * n))) (iters s n h id inp false r j ++ xTo s n h id inp (r + j + 1) i) ∧ w.grownBy wr (some eb) ∧ wr.heap[eb]? = some (.cells (eqv s n h id inp false (r + j)) 63)) (fun _ xv _ => 9 - (intOf xv).toNat)
      case atStart =>
        refine ⟨0, by omega, rfl, ?_, HG.out, HEr⟩
        simpa [xTo] using HO.out
      case round =>
        obtain ⟨i, hi, rfl, ho, hg, he⟩ := hrel
        clear HO HG HEr leb ce
        have HO : Hid (wr.ownsRow _ _ _ _ _ _) := ho
        have HG : Hid (w.grownBy _ _) := hg
        have HEr : BlkIs wr eb _ _ := he
        have leb : eb < wr.heap.size := HEr.lt
        have ce := HEr.cells
        unfold eqv at ce
        clear ho hg he
        by_cases hi3 : i < 3
        · have hi4 : (i : Int) + 1 ≤ 3 := by omega
          go_wp2_with fail
          go_region_held3 (fun w' => ∀ o, w'.cell? ⟨eb, o, none⟩ = (#[.string s, .int .i64 n, .int .i64 h, .int .i64 id, .int .i64 inp, .bool false, .int .i64 (r + j)] : Array Value)[o]?)
            (first | exact ce | exact ((HEr.drew.gbn g1)).cells | exact ((HEr.drew.gbn g1).gbn g2).cells)
            (first | (go_at_call_of 21 (Value.int IntKind.i64 inp); refine (step_any _ _ _).mono ?_; rintro e w1 ⟨rfl, g1⟩) | (go_at_call 21; refine (step_sub _ _ _).mono ?_; rintro e w2 ⟨rfl, g2⟩))
          have HG2 : Hid (w.grownBy w2 (some eb)) := gb_none (gb_none (gb_none HG.out (gb_drew wr none)) g1) g2
          have HE2 : BlkIs w2 eb _ _ := (HEr.drew.gbn g1).gbn g2
          have HO2 : Hid (w2.ownsRow _ _ _ _ _ _) := own_gbn (own_gbn HO.out (gb_undrew g1)) g2
          have ce2 := HE2.cells
          unfold eqv at ce2
          have HT2 : Hid (Tab B w2) := tab_of HT.out HG2.out hBs.out hB
          have hB2 : Hid (B ≤ w2.heap.size) := Nat.le_trans hBs.out HG2.out.size
          clear ce HEr HO HG g1 g2 leb
          have leb : eb < w2.heap.size := HE2.lt
          have ne1 : some eb ≠ u5.ownBlock := fun e => by have := (HO2.out.lt eb e.symm).1; have := (Array.getElem?_eq_some_iff.1 HE.out).1; omega
          have tok1 : True := trivial
          go_wp2_with fail
          go_region_held3 (fun w' => ∀ o, w'.cell? ⟨eb, o, none⟩ = (#[.string s, .int .i64 n, .int .i64 h, .int .i64 id, .int .i64 inp, .bool false, .int .i64 (r + j)] : Array Value)[o]?)
            (first | exact ce2 | exact (HE2.drew.gbn g3).cells | exact ((HE2.drew.gbn g3).gbn g4).cells | exact (((HE2.drew.gbn g3).gbn g4).gb g5 ne1).cells)
            (first
              | (go_at_call 22; have _t := tok1; refine (abaCast_any s (r + j + 1) (i + 1) id 1 (stepS inp ((i : Int) + 1 == 3)) hs (by omega) (by omega) (by omega) (by omega) hi0 hi1 (B := B) _ (by exact tab_drew HT2.out) (by exact hB2.out)).mono ?_; rintro e w3 ⟨rfl, g3⟩; clear tok1)
              | (go_at_call 22; refine (abaCast_any s (r + j + 1) (i + 1) id 1 (stepS (1 - inp) ((i : Int) + 1 == 3)) hs (by omega) (by omega) (by omega) (by omega) hi0 hi1 (B := B) _ (by exact HT2.out.none (gb_undrew g3) hB2.out) (by exact Nat.le_trans hB2.out g3.size)).mono ?_; rintro e w4 ⟨rfl, g4⟩)
              | (go_at_call 20; refine (toHalves_any _ _ rfl rfl (msg_one _ _ _ _ _ _ _) (msg_one _ _ _ _ _ _ _) h u5 (j * (3 * (h + n * (4 * n))) + i * (h + n * (4 * n))) (iters s n h id inp false r j ++ xTo s n h id inp (r + j + 1) i) w.heap.size _ (by exact Nat.le_trans HG2.out.size (Nat.le_trans g3.size g4.size)) (by exact own_gbn (own_gbn HO2.out (gb_undrew g3)) g4) (by have := bndc (j := j) (n := n) (h := h) (i := i) (sd := 0) (by omega) hn hh hi (by omega); omega)).mono ?_; rintro e w5 ⟨v5, rfl, o5, g5, at5⟩))
          have HG5 : Hid (w.grownBy w5 (some eb)) := gb_trans (gb_none (gb_none HG2.out (gb_undrew g3)) g4) g5 (fun i e hi => by have := (HO2.out.lt i e).1; omega)
          have HE5 : BlkIs w5 eb _ _ := ((HE2.drew.gbn g3).gbn g4).gb g5 ne1
          have HO5 : Hid (w5.ownsRow w.heap.size 83 14 v5 (j * (3 * (h + n * (4 * n))) + i * (h + n * (4 * n)) + h) ((iters s n h id inp false r j ++ xTo s n h id inp (r + j + 1) i) ++ (halves h (msg s (r + j + 1) 1 (castSess s (r + j + 1) (i + 1) id) 1 (stepS inp ((i : Int) + 1 == 3)) 0) (msg s (r + j + 1) 1 (castSess s (r + j + 1) (i + 1) id) 1 (stepS (1 - inp) ((i : Int) + 1 == 3)) 0) h))) := o5
          clear ce2 HE2 HO2 HG2 HT2 hB2 g3 g4 g5 at5 o5 leb ne1
          have ce5 := HE5.cells
          unfold eqv at ce5
          go_wp2_with fail
          clear ce5
          go_loopw [5, 132] (fun ov sv wr => ∃ m : Nat, m ≤ n ∧ sv = .int .i64 m ∧ wr.ownsRow w.heap.size 83 14 ov (j * (3 * (h + n * (4 * n))) + i * (h + n * (4 * n)) + h + m * (4 * n)) ((iters s n h id inp false r j ++ xTo s n h id inp (r + j + 1) i) ++ (halves h (msg s (r + j + 1) 1 (castSess s (r + j + 1) (i + 1) id) 1 (stepS inp ((i : Int) + 1 == 3)) 0) (msg s (r + j + 1) 1 (castSess s (r + j + 1) (i + 1) id) 1 (stepS (1 - inp) ((i : Int) + 1 == 3)) 0) h) ++ sdTo s n (r + j + 1) (i + 1) (stepS inp ((i : Int) + 1 == 3)) (stepS (1 - inp) ((i : Int) + 1 == 3)) m) ∧ w.grownBy wr (some eb) ∧ BlkIs wr eb (eqv s n h id inp false (r + j)) 63) (fun _ sv _ => n - (intOf sv).toNat)
          case atStart => exact ⟨0, Nat.zero_le _, rfl, by simpa [sdTo] using HO5.out, HG5.out, HE5⟩
          case round =>
            obtain ⟨m, hm, rfl, ho, hg, HEr⟩ := hrel
            clear HO5 HG5 HE5
            have HO : Hid (wr.ownsRow _ _ _ _ _ _) := ho
            have HG : Hid (w.grownBy _ _) := hg
            clear ho hg
            have ce := HEr.cells
            unfold eqv at ce
            have leb : eb < w.heap.size := (Array.getElem?_eq_some_iff.1 HE.out).1
            by_cases hmn : m < n
            · go_wp2_with fail
              refine wp_loop_rounds 3 ?_
              rw [rounds_succ]
              go_wp2_with fail
              refine wp_loop_rounds 3 ?_
              rw [rounds_succ]
              go_wp2_with fail
              have bE0 := (HEr.alloc (.cells #[.int .u8 2, .int .u8 3] 40)).alloc (.cells #[.string (stepS inp ((i : Int) + 1 == 3)), .string (stepS (1 - inp) ((i : Int) + 1 == 3))] 9)
              have bK0 := (BlkIs.new wr #[.int .u8 2, .int .u8 3] 40).alloc (.cells #[.string (stepS inp ((i : Int) + 1 == 3)), .string (stepS (1 - inp) ((i : Int) + 1 == 3))] 9)
              have bV0 : BlkIs ((wr.alloc (.cells #[.int .u8 2, .int .u8 3] 40)).alloc (.cells #[.string (stepS inp ((i : Int) + 1 == 3)), .string (stepS (1 - inp) ((i : Int) + 1 == 3))] 9)) (wr.heap.size + 1) #[.string (stepS inp ((i : Int) + 1 == 3)), .string (stepS (1 - inp) ((i : Int) + 1 == 3))] 9 := heap_alloc2_new _ _ _
              have O0 := (HO.out.alloc (.cells #[.int .u8 2, .int .u8 3] 40)).alloc (.cells #[.string (stepS inp ((i : Int) + 1 == 3)), .string (stepS (1 - inp) ((i : Int) + 1 == 3))] 9)
              have G0 := gb_none (gb_none HG.out (World.grownBy_alloc wr (.cells #[.int .u8 2, .int .u8 3] 40) none)) (World.grownBy_alloc _ (.cells #[.string (stepS inp ((i : Int) + 1 == 3)), .string (stepS (1 - inp) ((i : Int) + 1 == 3))] 9) none)
              have nK0 := ne_of_lt_own HO.out (b := wr.heap.size) (Nat.le_refl _)
              have nV0 := ne_of_lt_own HO.out (b := wr.heap.size + 1) (by omega)
              have T0 : Hid (Tab B _) := tab_of HT.out G0 hBs.out hB
              have B0 : Hid (B ≤ _) := Nat.le_trans hBs.out G0.size
              have nE0 : some eb ≠ u5.ownBlock := fun e => by have := (O0.lt eb e.symm).1; omega
              go_region_held3 (fun w' => ∀ o, w'.cell? ⟨eb, o, none⟩ = (#[.string s, .int .i64 n, .int .i64 h, .int .i64 id, .int .i64 inp, .bool false, .int .i64 (r + j)] : Array Value)[o]?)
                (first | exact bE0.cells | exact (bE0.drew.gbn g61).cells | exact ((bE0.drew.gbn g61).alloc _).cells | exact (((bE0.drew.gbn g61).alloc _).gb g71 nE0).cells)
                (first
                  | (go_at_call 22; refine (abaCast_lit s (r + j + 1) (i + 1) m 2 (stepS inp ((i : Int) + 1 == 3)) hs (by omega) (by omega) (by omega) (by omega) (by omega) (by omega) (B := B) _ (by exact tab_drew T0.out) (by exact B0.out)).mono ?_; rintro e y1 ⟨rfl, g61⟩)
                  | (go_at_call 23; refine (toAll_any (msg s (r + j + 1) 1 (castSess s (r + j + 1) (i + 1) m) 2 (stepS inp ((i : Int) + 1 == 3)) 0) rfl (msg_one _ _ _ _ _ _ _) y1.heap.size n u5 (j * (3 * (h + n * (4 * n))) + i * (h + n * (4 * n)) + h + m * (4 * n)) ((iters s n h id inp false r j ++ xTo s n h id inp (r + j + 1) i) ++ (halves h (msg s (r + j + 1) 1 (castSess s (r + j + 1) (i + 1) id) 1 (stepS inp ((i : Int) + 1 == 3)) 0) (msg s (r + j + 1) 1 (castSess s (r + j + 1) (i + 1) id) 1 (stepS (1 - inp) ((i : Int) + 1 == 3)) 0) h) ++ sdTo s n (r + j + 1) (i + 1) (stepS inp ((i : Int) + 1 == 3)) (stepS (1 - inp) ((i : Int) + 1 == 3)) m) w.heap.size _ (by exact Nat.le_trans G0.size (Nat.le_trans g61.size (by simp))) (by exact (own_gbn O0 (gb_undrew g61)).alloc _) (by have := bndc (j := j) (n := n) (h := h) (i := i) (sd := m) (by omega) hn hh hi hm; omega) (by exact BlkIs.new y1 _ _)).mono ?_; rintro e x1 ⟨v1, rfl, O1, g71, at71⟩))
              obtain ⟨G1, bE1, bK1, bV1, nK1, nV1⟩ := after_all G0 bE0 bK0 bV0 (fun i e => (O0.lt i e).1) leb nK0 nV0 g61 g71 at71
              clear G0 bE0 bK0 bV0 nK0 nV0 g61 g71 at71 O0 nE0 T0 B0
              clear ce HEr HO HG
              go_wp2_with fail
              rw [rounds_succ]
              have cv1 := bV1.cells
              go_wp2_with fail
              have T1 : Hid (Tab B _) := tab_of HT.out G1 hBs.out hB
              have B1 : Hid (B ≤ _) := Nat.le_trans hBs.out G1.size
              have nE1 : some eb ≠ v1.ownBlock := fun e => by have := (O1.lt eb e.symm).1; omega
              clear cv1
              go_region_held3 (fun w' => ∀ o, w'.cell? ⟨eb, o, none⟩ = (#[.string s, .int .i64 n, .int .i64 h, .int .i64 id, .int .i64 inp, .bool false, .int .i64 (r + j)] : Array Value)[o]?)
                (first | exact bE1.cells | exact (bE1.drew.gbn g62).cells | exact ((bE1.drew.gbn g62).alloc _).cells | exact (((bE1.drew.gbn g62).alloc _).gb g72 nE1).cells)
                (first
                  | (go_at_call 22; refine (abaCast_lit s (r + j + 1) (i + 1) m 2 (stepS (1 - inp) ((i : Int) + 1 == 3)) hs (by omega) (by omega) (by omega) (by omega) (by omega) (by omega) (B := B) _ (by exact tab_drew T1.out) (by exact B1.out)).mono ?_; rintro e y2 ⟨rfl, g62⟩)
                  | (go_at_call 23; refine (toAll_any (msg s (r + j + 1) 1 (castSess s (r + j + 1) (i + 1) m) 2 (stepS (1 - inp) ((i : Int) + 1 == 3)) 0) rfl (msg_one _ _ _ _ _ _ _) y2.heap.size n v1 (j * (3 * (h + n * (4 * n))) + i * (h + n * (4 * n)) + h + m * (4 * n) + n) (((iters s n h id inp false r j ++ xTo s n h id inp (r + j + 1) i) ++ (halves h (msg s (r + j + 1) 1 (castSess s (r + j + 1) (i + 1) id) 1 (stepS inp ((i : Int) + 1 == 3)) 0) (msg s (r + j + 1) 1 (castSess s (r + j + 1) (i + 1) id) 1 (stepS (1 - inp) ((i : Int) + 1 == 3)) 0) h) ++ sdTo s n (r + j + 1) (i + 1) (stepS inp ((i : Int) + 1 == 3)) (stepS (1 - inp) ((i : Int) + 1 == 3)) m) ++ toAll (msg s (r + j + 1) 1 (castSess s (r + j + 1) (i + 1) m) 2 (stepS inp ((i : Int) + 1 == 3)) 0) n) w.heap.size _ (by exact Nat.le_trans G1.size (Nat.le_trans g62.size (by simp))) (by exact (own_gbn O1 (gb_undrew g62)).alloc _) (by have := bndc (j := j) (n := n) (h := h) (i := i) (sd := m) (by omega) hn hh hi hm; omega) (by exact BlkIs.new y2 _ _)).mono ?_; rintro e x2 ⟨v2, rfl, O2, g72, at72⟩))
              obtain ⟨G2, bE2, bK2, bV2, nK2, nV2⟩ := after_all G1 bE1 bK1 bV1 (fun i e => (O1.lt i e).1) leb nK1 nV1 g62 g72 at72
              clear G1 bE1 bK1 bV1 nK1 nV1 g62 g72 at72 O1 nE1 T1 B1
              go_wp2_with fail
              rw [rounds_succ]
              go_wp2_with fail
              rw [rounds_succ]
              have ck2 := bK2.cells
              go_wp2_with fail
              refine wp_loop_rounds 3 ?_
              rw [rounds_succ]
              go_wp2_with fail
              clear ck2
              have bE2' := bE2.alloc (.cells #[.string (stepS inp ((i : Int) + 1 == 3)), .string (stepS (1 - inp) ((i : Int) + 1 == 3))] 9)
              have bK2' := bK2.alloc (.cells #[.string (stepS inp ((i : Int) + 1 == 3)), .string (stepS (1 - inp) ((i : Int) + 1 == 3))] 9)
              have bV2' := BlkIs.new x2 #[.string (stepS inp ((i : Int) + 1 == 3)), .string (stepS (1 - inp) ((i : Int) + 1 == 3))] 9
              have G2' := gb_none G2 (World.grownBy_alloc _ (.cells #[.string (stepS inp ((i : Int) + 1 == 3)), .string (stepS (1 - inp) ((i : Int) + 1 == 3))] 9) none)
              have O2' := O2.alloc (.cells #[.string (stepS inp ((i : Int) + 1 == 3)), .string (stepS (1 - inp) ((i : Int) + 1 == 3))] 9)
              have nV2' := ne_of_lt_own O2 (b := x2.heap.size) (Nat.le_refl _)
              clear bE2 bK2 bV2 G2 O2 nV2
              have bE2 := bE2'
              have bK2 := bK2'
              have bV2 := bV2'
              have G2 := G2'
              have O2 := O2'
              have nV2 := nV2'
              clear bE2' bK2' bV2' G2' O2' nV2'
              have T2 : Hid (Tab B _) := tab_of HT.out G2 hBs.out hB
              have B2 : Hid (B ≤ _) := Nat.le_trans hBs.out G2.size
              have nE2 : some eb ≠ v2.ownBlock := fun e => by have := (O2.lt eb e.symm).1; omega
              go_region_held3 (fun w' => ∀ o, w'.cell? ⟨eb, o, none⟩ = (#[.string s, .int .i64 n, .int .i64 h, .int .i64 id, .int .i64 inp, .bool false, .int .i64 (r + j)] : Array Value)[o]?)
                (first | exact bE2.cells | exact (bE2.drew.gbn g63).cells | exact ((bE2.drew.gbn g63).alloc _).cells | exact (((bE2.drew.gbn g63).alloc _).gb g73 nE2).cells)
                (first
                  | (go_at_call 22; refine (abaCast_lit s (r + j + 1) (i + 1) m 3 (stepS inp ((i : Int) + 1 == 3)) hs (by omega) (by omega) (by omega) (by omega) (by omega) (by omega) (B := B) _ (by exact tab_drew T2.out) (by exact B2.out)).mono ?_; rintro e y3 ⟨rfl, g63⟩)
                  | (go_at_call 23; refine (toAll_any (msg s (r + j + 1) 1 (castSess s (r + j + 1) (i + 1) m) 3 (stepS inp ((i : Int) + 1 == 3)) 0) rfl (msg_one _ _ _ _ _ _ _) y3.heap.size n v2 (j * (3 * (h + n * (4 * n))) + i * (h + n * (4 * n)) + h + m * (4 * n) + n + n) ((((iters s n h id inp false r j ++ xTo s n h id inp (r + j + 1) i) ++ (halves h (msg s (r + j + 1) 1 (castSess s (r + j + 1) (i + 1) id) 1 (stepS inp ((i : Int) + 1 == 3)) 0) (msg s (r + j + 1) 1 (castSess s (r + j + 1) (i + 1) id) 1 (stepS (1 - inp) ((i : Int) + 1 == 3)) 0) h) ++ sdTo s n (r + j + 1) (i + 1) (stepS inp ((i : Int) + 1 == 3)) (stepS (1 - inp) ((i : Int) + 1 == 3)) m) ++ toAll (msg s (r + j + 1) 1 (castSess s (r + j + 1) (i + 1) m) 2 (stepS inp ((i : Int) + 1 == 3)) 0) n) ++ toAll (msg s (r + j + 1) 1 (castSess s (r + j + 1) (i + 1) m) 2 (stepS (1 - inp) ((i : Int) + 1 == 3)) 0) n) w.heap.size _ (by exact Nat.le_trans G2.size (Nat.le_trans g63.size (by simp))) (by exact (own_gbn O2 (gb_undrew g63)).alloc _) (by have := bndc (j := j) (n := n) (h := h) (i := i) (sd := m) (by omega) hn hh hi hm; omega) (by exact BlkIs.new y3 _ _)).mono ?_; rintro e x3 ⟨v3, rfl, O3, g73, at73⟩))
              obtain ⟨G3, bE3, bK3, bV3, nK3, nV3⟩ := after_all G2 bE2 bK2 bV2 (fun i e => (O2.lt i e).1) leb nK2 nV2 g63 g73 at73
              clear G2 bE2 bK2 bV2 nK2 nV2 g63 g73 at73 O2 nE2 T2 B2
              go_wp2_with fail
              rw [rounds_succ]
              have cv3 := bV3.cells
              go_wp2_with fail
              have T3 : Hid (Tab B _) := tab_of HT.out G3 hBs.out hB
              have B3 : Hid (B ≤ _) := Nat.le_trans hBs.out G3.size
              have nE3 : some eb ≠ v3.ownBlock := fun e => by have := (O3.lt eb e.symm).1; omega
              clear cv3
              go_region_held3 (fun w' => ∀ o, w'.cell? ⟨eb, o, none⟩ = (#[.string s, .int .i64 n, .int .i64 h, .int .i64 id, .int .i64 inp, .bool false, .int .i64 (r + j)] : Array Value)[o]?)
                (first | exact bE3.cells | exact (bE3.drew.gbn g64).cells | exact ((bE3.drew.gbn g64).alloc _).cells | exact (((bE3.drew.gbn g64).alloc _).gb g74 nE3).cells)
                (first
                  | (go_at_call 22; refine (abaCast_lit s (r + j + 1) (i + 1) m 3 (stepS (1 - inp) ((i : Int) + 1 == 3)) hs (by omega) (by omega) (by omega) (by omega) (by omega) (by omega) (B := B) _ (by exact tab_drew T3.out) (by exact B3.out)).mono ?_; rintro e y4 ⟨rfl, g64⟩)
                  | (go_at_call 23; refine (toAll_any (msg s (r + j + 1) 1 (castSess s (r + j + 1) (i + 1) m) 3 (stepS (1 - inp) ((i : Int) + 1 == 3)) 0) rfl (msg_one _ _ _ _ _ _ _) y4.heap.size n v3 (j * (3 * (h + n * (4 * n))) + i * (h + n * (4 * n)) + h + m * (4 * n) + n + n + n) (((((iters s n h id inp false r j ++ xTo s n h id inp (r + j + 1) i) ++ (halves h (msg s (r + j + 1) 1 (castSess s (r + j + 1) (i + 1) id) 1 (stepS inp ((i : Int) + 1 == 3)) 0) (msg s (r + j + 1) 1 (castSess s (r + j + 1) (i + 1) id) 1 (stepS (1 - inp) ((i : Int) + 1 == 3)) 0) h) ++ sdTo s n (r + j + 1) (i + 1) (stepS inp ((i : Int) + 1 == 3)) (stepS (1 - inp) ((i : Int) + 1 == 3)) m) ++ toAll (msg s (r + j + 1) 1 (castSess s (r + j + 1) (i + 1) m) 2 (stepS inp ((i : Int) + 1 == 3)) 0) n) ++ toAll (msg s (r + j + 1) 1 (castSess s (r + j + 1) (i + 1) m) 2 (stepS (1 - inp) ((i : Int) + 1 == 3)) 0) n) ++ toAll (msg s (r + j + 1) 1 (castSess s (r + j + 1) (i + 1) m) 3 (stepS inp ((i : Int) + 1 == 3)) 0) n) w.heap.size _ (by exact Nat.le_trans G3.size (Nat.le_trans g64.size (by simp))) (by exact (own_gbn O3 (gb_undrew g64)).alloc _) (by have := bndc (j := j) (n := n) (h := h) (i := i) (sd := m) (by omega) hn hh hi hm; omega) (by exact BlkIs.new y4 _ _)).mono ?_; rintro e x4 ⟨v4, rfl, O4, g74, at74⟩))
              obtain ⟨G4, bE4, bK4, bV4, nK4, nV4⟩ := after_all G3 bE3 bK3 bV3 (fun i e => (O3.lt i e).1) leb nK3 nV3 g64 g74 at74
              clear G3 bE3 bK3 bV3 nK3 nV3 g64 g74 at74 O3 nE3 T3 B3
              go_wp2_with fail
              rw [rounds_succ]
              go_wp2_with fail
              rw [rounds_succ]
              go_wp2_with fail
              go_roundw
              case rel =>
                refine ⟨m + 1, by omega, by go_num, ?_, G4, bE4⟩
                have e : j * (3 * (h + n * (4 * n))) + i * (h + n * (4 * n)) + h + m * (4 * n) + n + n + n + n = j * (3 * (h + n * (4 * n))) + i * (h + n * (4 * n)) + h + (m + 1) * (4 * n) := by rw [Nat.add_mul m 1]; omega
                rw [e] at O4
                simpa only [sdTo, fourOf, List.append_assoc] using O4
              case measure => simp [intOf]; omega
            · obtain rfl : m = n := by omega
              go_wp2_with fail
              refine ⟨⟨i + 1, by omega, by go_num, ?_, HG.out, HEr⟩, by simp [intOf]; omega⟩
              have e : j * (3 * (h + m * (4 * m))) + i * (h + m * (4 * m)) + h + m * (4 * m) = j * (3 * (h + m * (4 * m))) + (i + 1) * (h + m * (4 * m)) := by rw [Nat.add_mul i 1]; omega
              have := HO.out
              rw [e] at this
              simpa only [xTo, stepOf, List.append_assoc] using this
        · obtain rfl : i = 3 := by omega
          have fz : wr.frozen? ⟨eb, 6, none⟩ = false := frozen_of_row _ _ _ _ _ HEr
          go_wp2_with fail
          refine ⟨⟨j + 1, by omega, ?_, gb_trans HG.out (gb_setCell _ _ _) (fun i e _ => e), ?_⟩, ?_⟩
          · have := ownsRow_setCell_below HO.out (a := ⟨eb, 6, none⟩) (Array.getElem?_eq_some_iff.1 HE.out).1 (.int .i64 (r + j + 1))
            have e : j * (3 * (h + n * (4 * n))) + 3 * (h + n * (4 * n)) = (j + 1) * (3 * (h + n * (4 * n))) := by rw [Nat.add_mul]; omega
            rw [e] at this
            exact this
          · rw [show r + ((j + 1 : Nat) : Int) = r + j + 1 by omega]
            exact eqv_set HEr
          · rw [reachedOf_eq (eqv_set HEr), ROo.out]; omega
    · have hlt' : ¬ r + j < k := by have := HK.out; omega
      go_wp2_with fail
      go_ret
      obtain rfl : j = d := by omega
      exact ⟨_, rfl, HO.out, HG.out, HEr⟩
end Go.Proofs.YbulkxuDoor
