import Derived.Test.YbulkxuDoorW7
import Derived.Test.YbulkxuDoorM1
import Derived.Test.YbulkxuDoorM2
import Derived.Deep.DeepCutAuto
namespace Go.Proofs.YbulkxuDoor
open Go.RowKit
set_option linter.all false

/-- One's own value first, the other one behind it. -/
def pickS (vv : Nat) (own oth : ByteArray) : ByteArray := if vv = 0 then own else oth
def viTo (s : ByteArray) (n : Nat) (it x kd : Int) (own oth : ByteArray) (sd : Int) : Nat → List Value
  | 0 => []
  | v + 1 => viTo s n it x kd own oth sd v ++ toAll (msg s it 1 (castSess s it x sd) kd (pickS v own oth) 0) n
def kiTo (s : ByteArray) (n : Nat) (it x : Int) (own oth : ByteArray) (sd : Int) : Nat → List Value
  | 0 => []
  | k + 1 => kiTo s n it x own oth sd k ++ viTo s n it x (2 + k) own oth sd 2
theorem four_ki (s : ByteArray) (n : Nat) (it x : Int) (own oth : ByteArray) (sd : Int) : fourOf s n it x own oth sd = kiTo s n it x own oth sd 2 := by
  simp [fourOf, kiTo, viTo, pickS]

theorem step_own (inp : Int) (i : Nat) (ad : Int) (h : ad = if i = 2 then 2 else 0) : byteStr (wrap64 (inp + ad)) = stepS inp ((i : Int) + 1 == 3) := by
  rw [byteStr_wrap, h]
  by_cases e : i = 2
  · subst e; rfl
  · rw [if_neg e, show ((i : Int) + 1 == 3) = false from beq_eq_false_iff_ne.2 (by omega)]
    simp [stepS]
theorem step_oth (inp : Int) (i : Nat) (ad : Int) (h : ad = if i = 2 then 2 else 0) : byteStr (wrap64 (wrap64 (1 - inp) + ad)) = stepS (1 - inp) ((i : Int) + 1 == 3) := by
  rw [← step_own (1 - inp) i ad h]
  have : wrap64 (wrap64 (1 - inp) + ad) = wrap64 (1 - inp + ad) := by unfold wrap64; omega
  rw [this]

theorem conv2 (b : Int) (w : World) (X : Obj) : Sem.run Ybad.prog (convert 84 9 (Value.slice (some { block := w.heap.size + 1, off := 0 }) 1 1)) ((w.alloc X).alloc (Obj.cells #[Value.int IntKind.u8 (b % 256)] 5)) = .ok (.string (byteStr b)) ((w.alloc X).alloc (Obj.cells #[Value.int IntKind.u8 (b % 256)] 5)) := by
  have := conv1 b (w.alloc X)
  simpa using this


/-- What the loops over senders, kinds, values and parties keep. -/
def MInv (w wr : World) (kb vb : Nat) (own oth : ByteArray) (ov : Value) : Prop :=
  w.grownBy wr none ∧ BlkIs wr kb #[.int .u8 2, .int .u8 3] 85 ∧ BlkIs wr vb #[.string own, .string oth] 86 ∧ some kb ≠ ov.ownBlock ∧ some vb ≠ ov.ownBlock
theorem MInv.next {w wr y w1 : World} {kb vb : Nat} {own oth : ByteArray} {ov : Value} {n : Nat} {xs : List Value} {M : Obj} {g m c H : Nat} (h : MInv w wr kb vb own oth ov) (ho : wr.ownsRow w.heap.size 83 14 ov n xs) (gy : wr.drew.grownBy y none)
    (hg : (y.alloc M).grownBy w1 ov.ownBlock) (hat : ov.ownBlock = some g ∨ g = H) (hH : y.heap.size < H) : MInv w w1 kb vb own oth (.slice (some ⟨g, 0, none⟩) m c) := by
  obtain ⟨h1, h2, h3, h4, h5⟩ := h
  refine ⟨gb_own (B := 0) (gb_none (gb_none h1 (gb_undrew gy)) (World.grownBy_alloc _ _ none)) ((own_gbn ho (gb_undrew gy)).alloc _) hg, ((h2.gbn (gb_undrew gy)).alloc _).gb hg h4, ((h3.gbn (gb_undrew gy)).alloc _).gb hg h5, ?_, ?_⟩
  · rcases hat with e | e0
    · rw [e] at h4; exact h4
    · intro e; have e1 : kb = g := Option.some.inj e; have := (h2.gbn (gb_undrew gy)).lt; omega
  · rcases hat with e | e0
    · rw [e] at h5; exact h5
    · intro e; have e1 : vb = g := Option.some.inj e; have := (h3.gbn (gb_undrew gy)).lt; omega
theorem kind_cell {w : World} {kb kk : Nat} (h : BlkIs w kb #[.int .u8 2, .int .u8 3] 85) (hk : kk < 2) : w.cell? ⟨kb, kk, none⟩ = some (.int .u8 (2 + kk)) := by
  rw [h.cells kk]
  rcases (show kk = 0 ∨ kk = 1 by omega) with rfl | rfl <;> rfl
theorem val_cell {w : World} {vb vv : Nat} {own oth : ByteArray} (h : BlkIs w vb #[.string own, .string oth] 86) (hv : vv < 2) : w.cell? ⟨vb, vv, none⟩ = some (.string (pickS vv own oth)) := by
  rw [h.cells vv]
  rcases (show vv = 0 ∨ vv = 1 by omega) with rfl | rfl <;> rfl
theorem bndm {j h n i sd kk vv t : Nat} (hj : j ≤ 10) (hn : n ≤ 100) (hh : h ≤ 100) (hi : i ≤ 3) (hs : sd ≤ n) (hk : kk ≤ 2) (hv : vv ≤ 2) (ht : t ≤ n) : j * (3 * (h + n * (4 * n))) + i * (h + n * (4 * n)) + h + sd * (4 * n) + kk * (2 * n) + vv * n + t + 1 ≤ 10000000 := by
  have a := bndc hj hn hh hi hs
  have a1 : kk * (2 * n) ≤ 2 * (2 * 100) := Nat.mul_le_mul hk (Nat.mul_le_mul_left 2 hn)
  have a2 : vv * n ≤ 2 * 100 := Nat.mul_le_mul hv hn
  have b0 : n * (4 * n) ≤ 100 * (4 * 100) := Nat.mul_le_mul hn (Nat.mul_le_mul_left 4 hn)
  have b1 : j * (3 * (h + n * (4 * n))) ≤ 10 * (3 * 40100) := Nat.mul_le_mul hj (by omega)
  have b2 : i * (h + n * (4 * n)) ≤ 3 * 40100 := Nat.mul_le_mul hi (by omega)
  have b3 : sd * (4 * n) ≤ 100 * (4 * 100) := Nat.mul_le_mul (by omega) (Nat.mul_le_mul_left 4 hn)
  omega

theorem kk_alloc {w wr y : World} {kb vb kk vv : Nat} {own oth : ByteArray} {ov : Value} {M : Obj} {a b : Value} (h : MInv w wr kb vb own oth ov) (gy : wr.drew.grownBy y none) (ck : wr.cell? ⟨kb, kk, none⟩ = some a) (cv : wr.cell? ⟨vb, vv, none⟩ = some b) :
    (y.alloc M).cell? ⟨kb, kk, none⟩ = some a ∧ (y.alloc M).cell? ⟨vb, vv, none⟩ = some b := by
  have g := gb_none (gb_undrew gy) (World.grownBy_alloc y M none)
  exact ⟨(g.cell_far _ h.2.1.lt (by simp)).trans ck, (g.cell_far _ h.2.2.1.lt (by simp)).trans cv⟩
theorem kk_grow {w wr y w1 : World} {kb vb kk vv : Nat} {own oth : ByteArray} {ov : Value} {M : Obj} {a b : Value} (h : MInv w wr kb vb own oth ov) (gy : wr.drew.grownBy y none) (hg : (y.alloc M).grownBy w1 ov.ownBlock) (ck : wr.cell? ⟨kb, kk, none⟩ = some a) (cv : wr.cell? ⟨vb, vv, none⟩ = some b) :
    w1.cell? ⟨kb, kk, none⟩ = some a ∧ w1.cell? ⟨vb, vv, none⟩ = some b := by
  obtain ⟨c1, c2⟩ := kk_alloc (M := M) h gy ck cv
  exact ⟨(hg.cell_far _ ((h.2.1.gbn (gb_undrew gy)).alloc M).lt h.2.2.2.1).trans c1, (hg.cell_far _ ((h.2.2.1.gbn (gb_undrew gy)).alloc M).lt h.2.2.2.2).trans c2⟩

set_option maxRecDepth 100000 in
set_option maxHeartbeats 16000000 in
theorem model_c (s : ByteArray) (n h : Nat) (id inp r k : Int) (w : World) (d : Nat) (hd : d ≤ 10) (hn : n ≤ 100) (hh : h ≤ 100) (hk : d = (k - r).toNat) (hs : s.size ≤ 100000)
    (hr0 : -9223372036854775808 ≤ r) (hr1 : r + 2 ≤ 9223372036854775807) (hk0 : -9223372036854775808 ≤ k) (hk1 : k + 2 ≤ 9223372036854775807)
    (hi0 : -9223372036854775808 ≤ id) (hi1 : id ≤ 9223372036854775807) (B : Nat) (hB : B ≤ w.heap.size) (hT : Tab B w) :
    Calls Ybad.prog 11 #[.string s, .int .i64 n, .int .i64 h, .int .i64 id, .int .i64 inp, .bool false, .int .i64 r, .int .i64 k] w fun e w' => ∃ v', e = .returned v' ∧ w'.ownsRow w.heap.size 83 14 v' (d * (3 * (h + n * (4 * n)))) (iters s n h id inp false r d) ∧ w.grownBy w' none := by
  have hrd : r + d + 2 ≤ 9223372036854775807 := by omega
  have HK : Hid (d = (k - r).toNat) := hk
  have HT : Hid (Tab B w) := hT
  obtain ⟨i0, hi, hz0, hz1, hz2⟩ := info_parts Ybad.info83
  clear hk hT
  go_enter Ybad.func11, Ybad.ntmps11
  go_wp2_with fail
  go_loopw [17, 18] (fun ov iv wr => ∃ j : Nat, j ≤ d ∧ iv = .int .i64 (r + j + 1) ∧ wr.ownsRow w.heap.size 83 14 ov (j * (3 * (h + n * (4 * n)))) (iters s n h id inp false r j) ∧ w.grownBy wr none) (fun _ iv _ => (d + 1) - (intOf iv - r).toNat)
  case atStart => exact ⟨0, Nat.zero_le _, by simp, by simpa [iters] using World.ownsRow_nil _ _ _ _, gb_refl _ _⟩
  case round =>
    obtain ⟨j, hj, rfl, ho, hg⟩ := hrel
    have HO : Hid (wr.ownsRow _ _ _ _ _ _) := ho
    have HG : Hid (w.grownBy _ _) := hg
    clear ho hg
    by_cases hlt : j < d
    · have hlt' : r + j + 1 ≤ k := by have := HK.out; omega
      go_wp2_with fail
      obtain ⟨wo, rfl⟩ : ∃ wo : World, wo = wr := ⟨_, rfl⟩
      go_loopw [17, 22] (fun ov xv wr => ∃ i : Nat, i ≤ 3 ∧ xv = .int .i64 ((i : Int) + 1) ∧ wr.ownsRow w.heap.size 83 14 ov (j * (3 * (h + n * (4 * n))) + i * (h + n * (4 * n))) (iters s n h id inp false r j ++ xTo s n h id inp (r + j + 1) i) ∧ w.grownBy wr none) (fun _ xv _ => 9 - (intOf xv).toNat)
      case atStart => exact ⟨0, by omega, rfl, by simpa [xTo] using HO.out, HG.out⟩
      case round =>
        obtain ⟨i, hi3, rfl, ho, hg⟩ := hrel
        clear HO HG
        have HO : Hid (wr.ownsRow _ _ _ _ _ _) := ho
        have HG : Hid (w.grownBy _ _) := hg
        clear ho hg
        by_cases hi4 : i < 3
        · have hi8 : (i : Int) + 1 ≤ 3 := by omega
          obtain ⟨ad, had⟩ : ∃ ad : Int, ad = if i = 2 then 2 else 0 := ⟨_, rfl⟩
          have HAD : Hid (ad = if i = 2 then 2 else 0) := had
          have had2 : 0 ≤ ad ∧ ad ≤ 2 := by rw [had]; split <;> omega
          clear had
          go_upto_if 73 with (fail)
          go_cut [23] (fun av wc => av = .int .i64 ad ∧ wc = wr)
          case first =>
            by_cases e2 : i = 2
            · have h3 : ((i : Int) + 1 == 3) = true := beq_iff_eq.2 (by omega)
              have e := HAD.out
              rw [if_pos e2] at e
              go_wp2_with fail
              go_meet
              case rel => exact ⟨by rw [e], rfl⟩
            · have h3 : ((i : Int) + 1 == 3) = false := beq_eq_false_iff_ne.2 (by omega)
              have e := HAD.out
              rw [if_neg e2] at e
              go_wp2_with fail
              go_meet
              case rel => exact ⟨by rw [e], rfl⟩
          case rest =>
            obtain ⟨rfl, rfl⟩ := hcut
            have kc1 := conv1 (wrap64 (inp + ad)) wc
            have kc2 := conv2 (wrap64 (wrap64 (1 - inp) + ad)) wc
            rw [step_own inp i ad HAD.out] at kc1
            rw [step_oth inp i ad HAD.out] at kc2
            go_wp2_with fail
            have HO2 : Hid (World.ownsRow _ _ _ _ _ _ _) := (HO.out.alloc (.cells #[.int .u8 (wrap64 (inp + ad) % 256)] 5)).alloc (.cells #[.int .u8 (wrap64 (wrap64 (1 - inp) + ad) % 256)] 5)
            have HG2 : Hid (World.grownBy _ _ _) := gb_none (gb_none HG.out (World.grownBy_alloc wc (.cells #[.int .u8 (wrap64 (inp + ad) % 256)] 5) none)) (World.grownBy_alloc _ (.cells #[.int .u8 (wrap64 (wrap64 (1 - inp) + ad) % 256)] 5) none)
            clear kc1 kc2 HO HG
            go_loopw [17, 26] (fun ov tv wr => ∃ m : Nat, m ≤ h ∧ tv = .int .i64 m ∧ wr.ownsRow w.heap.size 83 14 ov (j * (3 * (h + n * (4 * n))) + i * (h + n * (4 * n)) + m) (iters s n h id inp false r j ++ xTo s n h id inp (r + j + 1) i ++ halves h (msg s (r + j + 1) 1 (castSess s (r + j + 1) (i + 1) id) 1 (stepS inp ((i : Int) + 1 == 3)) 0) (msg s (r + j + 1) 1 (castSess s (r + j + 1) (i + 1) id) 1 (stepS (1 - inp) ((i : Int) + 1 == 3)) 0) m) ∧ w.grownBy wr none) (fun _ tv _ => h - (intOf tv).toNat)
            case atStart => exact ⟨0, by omega, rfl, by simpa [halves] using HO2.out, HG2.out⟩
            case round =>
              obtain ⟨m, hm, rfl, ho, hg⟩ := hrel
              clear HO2 HG2
              have HO : Hid (wr.ownsRow _ _ _ _ _ _) := ho
              have HG : Hid (w.grownBy _ _) := hg
              clear ho hg
              have hbd := bndc (j := j) (n := n) (h := h) (i := i) (sd := 0) (by omega) hn hh hi3 (by omega)
              have HTr : Hid (Tab B wr) := HT.out.none HG.out hB
              have hBr : B ≤ wr.heap.size := Nat.le_trans hB HG.out.size
              have hwr : w.heap.size ≤ wr.heap.size := HG.out.size
              by_cases hmh : m < h
              · by_cases hhalf : (h + 1) / 2 ≤ m
                · have ht : (h : Int) ≤ 2 * m := by omega
                  go_wp2_with (first
                    | (go_at_call 24; refine (bcast_any s (r + j + 1) (i + 1) id 1 (stepS (1 - inp) ((i : Int) + 1 == 3)) hs (by omega) (by omega) (by omega) (by omega) hi0 hi1 (B := B) _ (by exact HTr.out) (by exact hBr)).mono ?_; rintro e y ⟨rfl, gy⟩; have hwy : w.heap.size ≤ y.heap.size := Nat.le_trans hwr gy.size)
                    | (at_builtin; refine wpList_append_lies _ rfl _ _ _ rfl w.heap.size 83 i0 _ 14 176 Ybad.underlying64 hi hz0 hz1 hz2 rfl (by omega) u17 (j * (3 * (h + n * (4 * n))) + i * (h + n * (4 * n)) + m) _ (by rfl) (by exact (own_gbn HO.out gy).alloc _) ⟨y.heap.size, 0, none⟩ 1 1 (.int .i64 m :: (msg s (r + j + 1) 1 (castSess s (r + j + 1) (i + 1) id) 1 (stepS (1 - inp) ((i : Int) + 1 == 3)) 0)) (by rfl) (by rfl) (by exact World.news_of_block (heap_alloc_new _ _)) (by exact one_cons _ _ (msg_one _ _ _ _ _ _ _)) (by omega) (by unfold maxLen; omega) (by omega) (by exact hbase1 hwy) (y.heap.size + 1) (by simp) ?_; intro g cap w1 hown1 hgrow hat1 hlt1))
                  go_roundw
                  case rel =>
                    refine ⟨m + 1, by omega, by go_num, ?_, gb_own (B := 0) (gb_none (gb_none HG.out gy) (World.grownBy_alloc _ _ _)) ((own_gbn HO.out gy).alloc _) hgrow⟩
                    have := hown1
                    rw [List.append_assoc] at this
                    simpa [halves, hhalf, Nat.add_assoc] using this
                  case measure => simp [intOf]; omega
                · have ht : ¬ (h : Int) ≤ 2 * m := by omega
                  go_wp2_with (first
                    | (go_at_call 24; refine (bcast_any s (r + j + 1) (i + 1) id 1 (stepS inp ((i : Int) + 1 == 3)) hs (by omega) (by omega) (by omega) (by omega) hi0 hi1 (B := B) _ (by exact HTr.out) (by exact hBr)).mono ?_; rintro e y ⟨rfl, gy⟩; have hwy : w.heap.size ≤ y.heap.size := Nat.le_trans hwr gy.size)
                    | (at_builtin; refine wpList_append_lies _ rfl _ _ _ rfl w.heap.size 83 i0 _ 14 176 Ybad.underlying64 hi hz0 hz1 hz2 rfl (by omega) u17 (j * (3 * (h + n * (4 * n))) + i * (h + n * (4 * n)) + m) _ (by rfl) (by exact (own_gbn HO.out gy).alloc _) ⟨y.heap.size, 0, none⟩ 1 1 (.int .i64 m :: (msg s (r + j + 1) 1 (castSess s (r + j + 1) (i + 1) id) 1 (stepS inp ((i : Int) + 1 == 3)) 0)) (by rfl) (by rfl) (by exact World.news_of_block (heap_alloc_new _ _)) (by exact one_cons _ _ (msg_one _ _ _ _ _ _ _)) (by omega) (by unfold maxLen; omega) (by omega) (by exact hbase1 hwy) (y.heap.size + 1) (by simp) ?_; intro g cap w1 hown1 hgrow hat1 hlt1))
                  go_roundw
                  case rel =>
                    refine ⟨m + 1, by omega, by go_num, ?_, gb_own (B := 0) (gb_none (gb_none HG.out gy) (World.grownBy_alloc _ _ _)) ((own_gbn HO.out gy).alloc _) hgrow⟩
                    have := hown1
                    rw [List.append_assoc] at this
                    simpa [halves, hhalf, Nat.add_assoc] using this
                  case measure => simp [intOf]; omega
              · obtain rfl : h = m := by omega
                go_wp2_with fail
                obtain ⟨kb, hkb⟩ : ∃ kb, kb = wr.heap.size := ⟨_, rfl⟩
                rw [← hkb]
                have HO6 : Hid (World.ownsRow _ _ _ _ _ _ _) := (HO.out.alloc (.cells #[.int .u8 2, .int .u8 3] 85)).alloc (.cells #[.string (stepS inp ((i : Int) + 1 == 3)), .string (stepS (1 - inp) ((i : Int) + 1 == 3))] 86)
                have HV6 : Hid (MInv w ((wr.alloc (.cells #[.int .u8 2, .int .u8 3] 85)).alloc (.cells #[.string (stepS inp ((i : Int) + 1 == 3)), .string (stepS (1 - inp) ((i : Int) + 1 == 3))] 86)) kb (kb + 1) (stepS inp ((i : Int) + 1 == 3)) (stepS (1 - inp) ((i : Int) + 1 == 3)) u17) := by
                  refine ⟨gb_none (gb_none HG.out (World.grownBy_alloc _ _ none)) (World.grownBy_alloc _ _ none), ?_, ?_, ?_, ?_⟩
                  · rw [hkb]; exact (BlkIs.new wr _ _).alloc _
                  · rw [hkb]; exact heap_alloc2_new _ _ _
                  · rw [hkb]; exact ne_of_lt_own HO.out (Nat.le_refl _)
                  · rw [hkb]; exact ne_of_lt_own HO.out (by omega)
                clear HO HG HTr hBr hwr hbd hkb
                go_loopw [17, 30] (fun ov lv wr => ∃ sd : Nat, sd ≤ n ∧ lv = .int .i64 sd ∧ wr.ownsRow w.heap.size 83 14 ov (j * (3 * (h + n * (4 * n))) + i * (h + n * (4 * n)) + h + sd * (4 * n)) (iters s n h id inp false r j ++ xTo s n h id inp (r + j + 1) i ++ halves h (msg s (r + j + 1) 1 (castSess s (r + j + 1) (i + 1) id) 1 (stepS inp ((i : Int) + 1 == 3)) 0) (msg s (r + j + 1) 1 (castSess s (r + j + 1) (i + 1) id) 1 (stepS (1 - inp) ((i : Int) + 1 == 3)) 0) h ++ sdTo s n (r + j + 1) (i + 1) (stepS inp ((i : Int) + 1 == 3)) (stepS (1 - inp) ((i : Int) + 1 == 3)) sd) ∧ MInv w wr kb (kb + 1) (stepS inp ((i : Int) + 1 == 3)) (stepS (1 - inp) ((i : Int) + 1 == 3)) ov) (fun _ lv _ => n - (intOf lv).toNat)
                case atStart => exact ⟨0, by omega, rfl, by simpa [sdTo] using HO6.out, HV6.out⟩
                case round =>
                  obtain ⟨sd, hsd, rfl, ho, hv0⟩ := hrel
                  clear HO6 HV6
                  have HO : Hid (wr.ownsRow _ _ _ _ _ _) := ho
                  have HV : Hid (MInv _ _ _ _ _ _ _) := hv0
                  clear ho hv0
                  by_cases hsdn : sd < n
                  · go_wp2_with fail
                    go_loopw [17, 31] (fun ov lv wr => ∃ kk : Nat, kk ≤ 2 ∧ lv = .int .i64 kk ∧ wr.ownsRow w.heap.size 83 14 ov (j * (3 * (h + n * (4 * n))) + i * (h + n * (4 * n)) + h + sd * (4 * n) + kk * (2 * n)) (iters s n h id inp false r j ++ xTo s n h id inp (r + j + 1) i ++ halves h (msg s (r + j + 1) 1 (castSess s (r + j + 1) (i + 1) id) 1 (stepS inp ((i : Int) + 1 == 3)) 0) (msg s (r + j + 1) 1 (castSess s (r + j + 1) (i + 1) id) 1 (stepS (1 - inp) ((i : Int) + 1 == 3)) 0) h ++ sdTo s n (r + j + 1) (i + 1) (stepS inp ((i : Int) + 1 == 3)) (stepS (1 - inp) ((i : Int) + 1 == 3)) sd ++ kiTo s n (r + j + 1) (i + 1) (stepS inp ((i : Int) + 1 == 3)) (stepS (1 - inp) ((i : Int) + 1 == 3)) sd kk) ∧ MInv w wr kb (kb + 1) (stepS inp ((i : Int) + 1 == 3)) (stepS (1 - inp) ((i : Int) + 1 == 3)) ov) (fun _ lv _ => 2 - (intOf lv).toNat)
                    case atStart => exact ⟨0, by omega, rfl, by simpa [kiTo] using HO.out, HV.out⟩
                    case round =>
                      obtain ⟨kk, hkk, rfl, ho, hv0⟩ := hrel
                      clear HO HV
                      have HO : Hid (wr.ownsRow _ _ _ _ _ _) := ho
                      have HV : Hid (MInv _ _ _ _ _ _ _) := hv0
                      clear ho hv0
                      by_cases hk2 : kk < 2
                      · have q0 : (0 : Int) ≤ (kk : Int) := Int.natCast_nonneg _
                        have q1 : (kk : Int) < 2 := by omega
                        go_wp2_with fail
                        go_loopw [17, 32] (fun ov lv wr => ∃ vv : Nat, vv ≤ 2 ∧ lv = .int .i64 vv ∧ wr.ownsRow w.heap.size 83 14 ov (j * (3 * (h + n * (4 * n))) + i * (h + n * (4 * n)) + h + sd * (4 * n) + kk * (2 * n) + vv * n) (iters s n h id inp false r j ++ xTo s n h id inp (r + j + 1) i ++ halves h (msg s (r + j + 1) 1 (castSess s (r + j + 1) (i + 1) id) 1 (stepS inp ((i : Int) + 1 == 3)) 0) (msg s (r + j + 1) 1 (castSess s (r + j + 1) (i + 1) id) 1 (stepS (1 - inp) ((i : Int) + 1 == 3)) 0) h ++ sdTo s n (r + j + 1) (i + 1) (stepS inp ((i : Int) + 1 == 3)) (stepS (1 - inp) ((i : Int) + 1 == 3)) sd ++ kiTo s n (r + j + 1) (i + 1) (stepS inp ((i : Int) + 1 == 3)) (stepS (1 - inp) ((i : Int) + 1 == 3)) sd kk ++ viTo s n (r + j + 1) (i + 1) (2 + kk) (stepS inp ((i : Int) + 1 == 3)) (stepS (1 - inp) ((i : Int) + 1 == 3)) sd vv) ∧ MInv w wr kb (kb + 1) (stepS inp ((i : Int) + 1 == 3)) (stepS (1 - inp) ((i : Int) + 1 == 3)) ov) (fun _ lv _ => 2 - (intOf lv).toNat)
                        case atStart => exact ⟨0, by omega, rfl, by simpa [viTo] using HO.out, HV.out⟩
                        case round =>
                          obtain ⟨vv, hvv, rfl, ho, hv0⟩ := hrel
                          clear HO HV
                          have HO : Hid (wr.ownsRow _ _ _ _ _ _) := ho
                          have HV : Hid (MInv _ _ _ _ _ _ _) := hv0
                          clear ho hv0
                          by_cases hv2 : vv < 2
                          · have q2 : (0 : Int) ≤ (vv : Int) := Int.natCast_nonneg _
                            have q3 : (vv : Int) < 2 := by omega
                            go_wp2_with fail
                            go_loopw [17, 33] (fun ov lv wr => ∃ t : Nat, t ≤ n ∧ lv = .int .i64 t ∧ wr.ownsRow w.heap.size 83 14 ov (j * (3 * (h + n * (4 * n))) + i * (h + n * (4 * n)) + h + sd * (4 * n) + kk * (2 * n) + vv * n + t) (iters s n h id inp false r j ++ xTo s n h id inp (r + j + 1) i ++ halves h (msg s (r + j + 1) 1 (castSess s (r + j + 1) (i + 1) id) 1 (stepS inp ((i : Int) + 1 == 3)) 0) (msg s (r + j + 1) 1 (castSess s (r + j + 1) (i + 1) id) 1 (stepS (1 - inp) ((i : Int) + 1 == 3)) 0) h ++ sdTo s n (r + j + 1) (i + 1) (stepS inp ((i : Int) + 1 == 3)) (stepS (1 - inp) ((i : Int) + 1 == 3)) sd ++ kiTo s n (r + j + 1) (i + 1) (stepS inp ((i : Int) + 1 == 3)) (stepS (1 - inp) ((i : Int) + 1 == 3)) sd kk ++ viTo s n (r + j + 1) (i + 1) (2 + kk) (stepS inp ((i : Int) + 1 == 3)) (stepS (1 - inp) ((i : Int) + 1 == 3)) sd vv ++ toAll (msg s (r + j + 1) 1 (castSess s (r + j + 1) (i + 1) sd) (2 + kk) (pickS vv (stepS inp ((i : Int) + 1 == 3)) (stepS (1 - inp) ((i : Int) + 1 == 3))) 0) t) ∧ MInv w wr kb (kb + 1) (stepS inp ((i : Int) + 1 == 3)) (stepS (1 - inp) ((i : Int) + 1 == 3)) ov) (fun _ lv _ => n - (intOf lv).toNat)
                            case atStart => exact ⟨0, by omega, rfl, by simpa [toAll] using HO.out, HV.out⟩
                            case round =>
                              obtain ⟨t, ht, rfl, ho, hv0⟩ := hrel
                              clear HO HV
                              have HO : Hid (wr.ownsRow _ _ _ _ _ _) := ho
                              have HV : Hid (MInv _ _ _ _ _ _ _) := hv0
                              clear ho hv0
                              by_cases htn : t < n
                              · have ck := kind_cell HV.out.2.1 hk2
                                have cv := val_cell HV.out.2.2.1 hv2
                                have hbd := bndm (j := j) (n := n) (h := h) (i := i) (sd := sd) (kk := kk) (vv := vv) (t := t) (by omega) hn hh hi3 hsd hkk hvv ht
                                have HTr : Hid (Tab B wr) := HT.out.none HV.out.1 hB
                                have hBr : B ≤ wr.heap.size := Nat.le_trans hB HV.out.1.size
                                have hwr : w.heap.size ≤ wr.heap.size := HV.out.1.size
                                obtain ⟨val, hval⟩ : ∃ val : ByteArray, val = (pickS vv (stepS inp ((i : Int) + 1 == 3)) (stepS (1 - inp) ((i : Int) + 1 == 3))) := ⟨_, rfl⟩
                                rw [← hval] at cv
                                have HVAL : Hid (_ = _) := hval
                                clear hval
                                go_wp2_with fail
                                go_region_held3 (fun w' => w'.cell? ⟨kb, kk, none⟩ = some (.int .u8 (2 + kk)) ∧ w'.cell? ⟨kb + 1, vv, none⟩ = some (.string val))
                                  (first | exact ⟨ck, cv⟩ | exact ⟨(gy.cell_far _ HV.out.2.1.lt (by simp)).trans ck, (gy.cell_far _ HV.out.2.2.1.lt (by simp)).trans cv⟩ | exact kk_alloc HV.out gy ck cv | exact kk_grow HV.out gy hgrow ck cv)
                                  (first
                                    | (go_at_call 24; refine (bcast_any s (r + j + 1) (i + 1) sd (2 + kk) val hs (by omega) (by omega) (by omega) (by omega) (by omega) (by omega) (B := B) _ (by exact tab_drew HTr.out) (by exact hBr)).mono ?_; rintro e y ⟨rfl, gy⟩)
                                    | (refine step_append_lies _ (by rfl) _ _ _ (by rfl) w.heap.size 83 i0 _ 14 176 Ybad.underlying64 hi hz0 hz1 hz2 rfl (by omega) u17 (j * (3 * (h + n * (4 * n))) + i * (h + n * (4 * n)) + h + sd * (4 * n) + kk * (2 * n) + vv * n + t) _ (by rfl) (by exact (own_gbn HO.out (gb_undrew gy)).alloc _) ⟨y.heap.size, 0, none⟩ 1 1 (.int .i64 t :: msg s (r + j + 1) 1 (castSess s (r + j + 1) (i + 1) sd) (2 + kk) val 0) (by rfl) (by rfl) (by exact World.news_of_block (heap_alloc_new _ _)) (by exact one_cons _ _ (msg_one _ _ _ _ _ _ _)) (by omega) (by unfold maxLen; omega) (by omega) (by exact hbase1 (Nat.le_trans hwr gy.size)) (y.heap.size + 1) (by simp) ?_; intro g cap w1 hown1 hgrow hat1 hlt1))
                                have V1 := MInv.next (m := j * (3 * (h + n * (4 * n))) + i * (h + n * (4 * n)) + h + sd * (4 * n) + kk * (2 * n) + vv * n + t + 1) (c := cap) HV.out HO.out gy hgrow hat1 (by omega)
                                clear ck cv
                                go_wp2_with fail
                                go_roundw
                                case rel =>
                                  have O1 : w1.ownsRow w.heap.size 83 14 (.slice (some ⟨g, 0, none⟩) (j * (3 * (h + n * (4 * n))) + i * (h + n * (4 * n)) + h + sd * (4 * n) + kk * (2 * n) + vv * n + t + 1) cap) (j * (3 * (h + n * (4 * n))) + i * (h + n * (4 * n)) + h + sd * (4 * n) + kk * (2 * n) + vv * n + (t + 1)) (iters s n h id inp false r j ++ xTo s n h id inp (r + j + 1) i ++ halves h (msg s (r + j + 1) 1 (castSess s (r + j + 1) (i + 1) id) 1 (stepS inp ((i : Int) + 1 == 3)) 0) (msg s (r + j + 1) 1 (castSess s (r + j + 1) (i + 1) id) 1 (stepS (1 - inp) ((i : Int) + 1 == 3)) 0) h ++ sdTo s n (r + j + 1) (i + 1) (stepS inp ((i : Int) + 1 == 3)) (stepS (1 - inp) ((i : Int) + 1 == 3)) sd ++ kiTo s n (r + j + 1) (i + 1) (stepS inp ((i : Int) + 1 == 3)) (stepS (1 - inp) ((i : Int) + 1 == 3)) sd kk ++ viTo s n (r + j + 1) (i + 1) (2 + kk) (stepS inp ((i : Int) + 1 == 3)) (stepS (1 - inp) ((i : Int) + 1 == 3)) sd vv ++ toAll (msg s (r + j + 1) 1 (castSess s (r + j + 1) (i + 1) sd) (2 + kk) (pickS vv (stepS inp ((i : Int) + 1 == 3)) (stepS (1 - inp) ((i : Int) + 1 == 3))) 0) (t + 1)) := by
                                    have := hown1
                                    rw [List.append_assoc, HVAL.out] at this
                                    exact this
                                  first | exact ⟨t + 1, by omega, by go_num, O1, V1⟩ | ((repeat apply Exists.intro); exact ⟨⟨t + 1, by omega, by go_num, O1, V1⟩, rfl⟩)
                                case measure => simp [intOf]; omega
                              · go_wp2_with fail
                                refine ⟨⟨vv + 1, by omega, by go_num, ?_, HV.out⟩, by simp [intOf]; omega⟩
                                obtain rfl : n = t := by omega
                                have e : j * (3 * (h + n * (4 * n))) + i * (h + n * (4 * n)) + h + sd * (4 * n) + kk * (2 * n) + vv * n + n = j * (3 * (h + n * (4 * n))) + i * (h + n * (4 * n)) + h + sd * (4 * n) + kk * (2 * n) + (vv + 1) * n := by rw [Nat.add_mul vv 1]; omega
                                have := HO.out
                                rw [e] at this
                                simpa only [viTo, List.append_assoc] using this
                          · obtain rfl : vv = 2 := by omega
                            go_wp2_with fail
                            refine ⟨⟨kk + 1, by omega, by go_num, ?_, HV.out⟩, by simp [intOf]; omega⟩
                            have e : j * (3 * (h + n * (4 * n))) + i * (h + n * (4 * n)) + h + sd * (4 * n) + kk * (2 * n) + 2 * n = j * (3 * (h + n * (4 * n))) + i * (h + n * (4 * n)) + h + sd * (4 * n) + (kk + 1) * (2 * n) := by rw [Nat.add_mul kk 1]; omega
                            have := HO.out
                            rw [e] at this
                            simpa only [kiTo, List.append_assoc] using this
                      · obtain rfl : kk = 2 := by omega
                        go_wp2_with fail
                        refine ⟨⟨sd + 1, by omega, by go_num, ?_, HV.out⟩, by simp [intOf]; omega⟩
                        have e : j * (3 * (h + n * (4 * n))) + i * (h + n * (4 * n)) + h + sd * (4 * n) + 2 * (2 * n) = j * (3 * (h + n * (4 * n))) + i * (h + n * (4 * n)) + h + (sd + 1) * (4 * n) := by rw [Nat.add_mul sd 1]; omega
                        have := HO.out
                        rw [e] at this
                        simpa only [sdTo, four_ki, List.append_assoc] using this
                  · obtain rfl : n = sd := by omega
                    go_wp2_with fail
                    refine ⟨⟨i + 1, by omega, by go_num, ?_, HV.out.1⟩, by simp [intOf]; omega⟩
                    have e : j * (3 * (h + n * (4 * n))) + i * (h + n * (4 * n)) + h + n * (4 * n) = j * (3 * (h + n * (4 * n))) + (i + 1) * (h + n * (4 * n)) := by rw [Nat.add_mul i 1]; omega
                    have := HO.out
                    rw [e] at this
                    simpa only [xTo, stepOf, List.append_assoc] using this
        · obtain rfl : i = 3 := by omega
          go_wp2_with fail
          refine ⟨⟨j + 1, by omega, by go_num, ?_, HG.out⟩, by simp [intOf]; omega⟩
          have e : j * (3 * (h + n * (4 * n))) + 3 * (h + n * (4 * n)) = (j + 1) * (3 * (h + n * (4 * n))) := by rw [Nat.add_mul]; omega
          have := HO.out
          rw [e] at this
          exact this
    · have hlt' : ¬ r + j + 1 ≤ k := by have := HK.out; omega
      go_wp2_with fail
      go_ret
      obtain rfl : j = d := by omega
      exact ⟨_, rfl, HO.out, HG.out⟩
end Go.Proofs.YbulkxuDoor
