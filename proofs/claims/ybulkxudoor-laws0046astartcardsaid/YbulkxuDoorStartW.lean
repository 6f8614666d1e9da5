import Derived.Test.YbulkxuDoorS2
import Derived.Lib.Builder
namespace Go.Proofs.YbulkxuDoor
open Go.RowKit
set_option linter.all false

theorem eqn33s (a : Addr) (w : World) : (binOp .eql 33 (.pointer (some a)) (.pointer none)).run Ybad.prog w = .ok (.bool false) w := by kernel_rfl
theorem castC0 (x : ByteArray) (m : Int) : castC x m 0 = amsg m 2 x := rfl
theorem castC1 (x : ByteArray) (m : Int) : castC x m 1 = amsg m 2 (notS x) := rfl
theorem castC2 (x : ByteArray) (m : Int) : castC x m 2 = amsg m 3 x := rfl
theorem castC3 (x : ByteArray) (m : Int) : castC x m 3 = amsg m 3 (notS x) := rfl

set_option maxRecDepth 100000 in
set_option maxHeartbeats 8000000 in
theorem start_pos (ib io n cap N F id b c : Nat) (ss : List ByteArray) (w : World) (hT : Tab w.heap.size w) (hn0 : 0 < n) (hn : n ≤ 256) (hcap : n ≤ cap) (hN : N ≤ 255) (hb : b ≤ 255) (hc : c ≤ 255) (hF : b % (N + 1) = F) (hid : c % n = id)
    (hib : ib < w.heap.size) (hin : ∀ i, i < n → w.cell? ⟨ib, io + i, none⟩ = some (.string (ss.getD i ByteArray.empty))) (hsz : ∀ i, i < n → (ss.getD i ByteArray.empty).size ≤ 140737488355328) :
    Calls Ybad.prog 3 #[.slice (some ⟨ib, io, none⟩) n cap, .int .u8 N, .int .u8 b, .int .u8 c] w fun e w' => e = .returned (.bool true) ∧ Below w.heap.size w w' := by
  have hFN : F ≤ N := by have := Nat.mod_lt b (show 0 < N + 1 by omega); omega
  have hidn : id < n := by have := Nat.mod_lt c hn0; omega
  have e1 : (b : Int).tmod ((N : Int) + 1) = (F : Int) := by rw [← hF]; exact (Int.ofNat_tmod b (N + 1)).symm
  have e2 : (c : Int).tmod (n : Int) = (id : Int) := by rw [← hid]; exact (Int.ofNat_tmod c n).symm
  have hn1 : ¬ (n : Int) = 0 := by omega
  have hn2 : ((n : Int) == 0) = false := beq_eq_false_iff_ne.2 hn1
  obtain ⟨h, hh⟩ : ∃ h, h = N - F := ⟨_, rfl⟩
  obtain ⟨m4, hm4⟩ : ∃ m4, m4 = n * 4 * N := ⟨_, rfl⟩
  obtain ⟨C, hC⟩ : ∃ C, C = startCnt N h n := ⟨_, rfl⟩
  have hCm : C = h + m4 := by rw [hC, hm4, startCnt, Nat.mul_assoc]
  have hm4b : m4 ≤ 261120 := by
    rw [hm4]
    have a0 : n * 4 * N ≤ 1024 * 255 := Nat.mul_le_mul (by omega) hN
    omega
  have e3 : (n : Int) * 4 * (N : Int) = (m4 : Int) := by rw [hm4]; simp
  have e4 : (h : Int) + (m4 : Int) = (C : Int) := by omega
  have e5 : (N : Int) - (F : Int) = (h : Int) := by omega
  have hCb : C ≤ 1000000 := by omega
  have HT : Hid (Tab w.heap.size w) := hT
  have HIN : Hid (∀ i, i < n → _) := hin
  have HSZ : Hid (∀ i, i < n → _) := hsz
  have HH : Hid (h = N - F) := hh
  have HC : Hid (C = _) := hC
  have q33 := eqn33s
  obtain ⟨own, hown⟩ : ∃ own, own = ss.getD id ByteArray.empty := ⟨_, rfl⟩
  have hos : own.size ≤ 140737488355328 := by rw [hown]; exact hsz id hidn
  have hos2 : ¬ 9223372036854775807 < 4 + own.size := by omega
  have HOWN : Hid (own = _) := hown
  clear hT hin hsz hF hid hC hh hm4 hown hCm
  go_enter Ybad.func3, Ybad.ntmps3
  go_wp2_with (first
    | refine wpList_store_new (w := w) rfl 27 (.tmp 12) (.tmp 46) rfl #[.slice (some ⟨ib, io, none⟩) n cap, .string ⟨#[]⟩] _ _ (by rfl) (by rfl) (by rfl) (by rfl) (by kernel_rfl) (by simp [Value.oneCell']) ?_
    | refine wpList_store_new (w := w.alloc (.cells #[.slice (some ⟨ib, io, none⟩) n cap, .string ⟨#[]⟩] 27)) rfl 32 (.tmp 13) (.tmp 49) rfl #[.int .i64 N, .int .i64 F, .int .i64 0, .int .i64 0, .int .u64 0, .slice none 0 0] _ _ (by rfl) (by rfl) (by rfl) (by rfl) (by kernel_rfl) (by simp [Value.oneCell']) ?_)
  have G0 := gb_none (World.grownBy_alloc w (.cells #[.slice (some ⟨ib, io, none⟩) n cap, .string ⟨#[]⟩] 27) none) (World.grownBy_alloc _ (.cells #[.int .i64 N, .int .i64 F, .int .i64 0, .int .i64 0, .int .u64 0, .slice none 0 0] 32) none)
  refine (equivocator_any N h F id n cap ib io ss _ w.heap.size (by simp; omega) (HT.out.none G0 (Nat.le_refl _)) hN hFN HH.out hidn hn hcap (by simp; omega) (fun i hi => (G0.cell_far _ hib (by simp)).trans (HIN.out i hi)) HSZ.out).mono ?_
  rintro e w2 ⟨Eb, gb, ab, mb, ebs, o, c', rfl, hE, hO, _, _, _, _, _, g2⟩
  rw [← HC.out] at hE hO
  have G2 := gb_none G0 g2
  have cE := hE.cells
  have cin : w2.cell? ⟨ib, io + id, none⟩ = some (.string own) := by rw [HOWN.out]; exact (G2.cell_far _ hib (by simp)).trans (HIN.out id hidn)
  have HE : Hid (BlkIs w2 Eb _ _) := hE
  have HO : Hid (w2.ownsRow _ _ _ _ _ _) := hO
  have qid : (id : Int) < (n : Int) := by omega
  clear hE hO g2
  go_wp2_with fail
  clear cE cin
  go_loopw [17, 18] (fun kv tv wr => ∃ t : Nat, t ≤ h ∧ kv = .int .i64 t ∧ tv = .int .i64 t ∧ w2.grownBy wr none) (fun _ tv _ => h - (intOf tv).toNat)
  case atStart => exact ⟨0, Nat.zero_le _, rfl, rfl, gb_refl _ _⟩
  case round =>
    obtain ⟨t, ht, rfl, rfl, hgr⟩ := hrel
    have HGR : Hid (w2.grownBy wr none) := hgr
    clear hgr
    by_cases hlt : t < h
    · have hT3 : Hid (Tab w.heap.size wr) := HT.out.none (gb_none G2 HGR.out) (Nat.le_refl _)
      have hB3 : w.heap.size ≤ wr.heap.size := (gb_none G2 HGR.out).size
      have cE := (HE.out.gbn HGR.out).cells
      have hel := start_own (N := N) (ss := ss) (id := id) (len := n) hlt
      rw [← HOWN.out] at hel
      by_cases h2 : h ≤ 2 * t
      · rw [if_pos (by omega)] at hel
        obtain ⟨g, rfl, hkC, hcc, q0, hrg⟩ := at19_of (own_gbn HO.out HGR.out) hel
        have HRG : Hid (wr.rangeAt _ _ _) := hrg
        have hx0 : (0 : Int) ≤ (t : Int) := Int.natCast_nonneg _
        have hx1 : (t : Int) < (C : Int) := by omega
        have hns : (⟨#[110, 111, 116, 45]⟩ : ByteArray) ++ own = notS own := rfl
        clear hel hrg
        go_wp2_with (first | refine wpList_load_midg rfl 51 (.tmp 105) rfl g (t * 19 + 1) rfl _ _ HRG.out Ybad.underlying51 rfl (by kernel_rfl) ?_ | (go_at_call 8; refine (cast_any id 1 (notS own) (by omega) (by omega) (B := w.heap.size) _ (by exact hT3.out) (by exact hB3)).mono ?_; rintro e w3 ⟨rfl, g3⟩))
        exact ⟨⟨t + 1, by omega, by go_num, by go_num, gb_none HGR.out g3⟩, by simp [intOf]; omega⟩
      · rw [if_neg (by omega)] at hel
        obtain ⟨g, rfl, hkC, hcc, q0, hrg⟩ := at19_of (own_gbn HO.out HGR.out) hel
        have HRG : Hid (wr.rangeAt _ _ _) := hrg
        have hx0 : (0 : Int) ≤ (t : Int) := Int.natCast_nonneg _
        have hx1 : (t : Int) < (C : Int) := by omega
        clear hel hrg
        go_wp2_with (first | refine wpList_load_midg rfl 51 (.tmp 105) rfl g (t * 19 + 1) rfl _ _ HRG.out Ybad.underlying51 rfl (by kernel_rfl) ?_ | (go_at_call 8; refine (cast_any id 1 own (by omega) (by omega) (B := w.heap.size) _ (by exact hT3.out) (by exact hB3)).mono ?_; rintro e w3 ⟨rfl, g3⟩))
        exact ⟨⟨t + 1, by omega, by go_num, by go_num, gb_none HGR.out g3⟩, by simp [intOf]; omega⟩
    · obtain rfl : t = h := by omega
      clear hos2
      go_wp2_with fail
      go_loopw [17, 20] (fun kv sv wr => ∃ (K s : Nat), s ≤ n ∧ kv = .int .i64 K ∧ sv = .int .i64 s ∧ K = t + s * (4 * N) ∧ w2.grownBy wr none) (fun _ sv _ => n - (intOf sv).toNat)
      case atStart => exact ⟨t, 0, Nat.zero_le _, rfl, rfl, by simp, HGR.out⟩
      case round =>
        obtain ⟨K, s, hs, rfl, rfl, hK, hgr⟩ := hrel
        have HG2 : Hid (w2.grownBy wr none) := hgr
        have HK2 : Hid (K = _) := hK
        clear hgr hK
        by_cases hs3 : s < n
        · obtain ⟨x, hx⟩ : ∃ x, x = ss.getD s ByteArray.empty := ⟨_, rfl⟩
          have hxz : ¬ 9223372036854775807 < 4 + x.size := by have := HSZ.out s hs3; rw [← hx] at this; omega
          have hns : (⟨#[110, 111, 116, 45]⟩ : ByteArray) ++ x = notS x := rfl
          have HX : Hid (x = _) := hx
          have qs : (s : Int) < (n : Int) := by omega
          clear hx
          go_wp2_with fail
          go_loopw [17, 21] (fun kv jv wr => ∃ (K j : Nat), j ≤ 2 ∧ kv = .int .i64 K ∧ jv = .int .i64 j ∧ K = t + (s * (4 * N) + (2 * j) * N) ∧ w2.grownBy wr none) (fun _ jv _ => 2 - (intOf jv).toNat)
          case atStart => exact ⟨_, 0, by omega, rfl, rfl, by rw [HK2.out]; simp, HG2.out⟩
          case round =>
            obtain ⟨K, j, hj, rfl, rfl, hK, hgr⟩ := hrel
            have HG3 : Hid (w2.grownBy wr none) := hgr
            have HK3 : Hid (K = _) := hK
            clear hgr hK
            by_cases hj2 : j < 2
            · have qj2 : (j : Int) < 2 := by omega
              by_cases hj0 : j = 0
              · have HJ : Hid (j = 0) := hj0
                have qj : ((j : Int) == 1) = false := beq_eq_false_iff_ne.2 (by omega)
                clear hj0
                go_wp2_with fail
                clear qj
                go_loopw [17, 23] (fun kv vv wr => ∃ (K v : Nat), v ≤ 2 ∧ kv = .int .i64 K ∧ vv = .int .i64 v ∧ K = t + (s * (4 * N) + (2 * j + v) * N) ∧ w2.grownBy wr none) (fun _ vv _ => 2 - (intOf vv).toNat)
                case atStart => exact ⟨_, 0, by omega, rfl, rfl, by rw [HK3.out]; rfl, HG3.out⟩
                case round =>
                  obtain ⟨K, v, hv, rfl, rfl, hK, hgr⟩ := hrel
                  have HG4 : Hid (w2.grownBy wr none) := hgr
                  have HK4 : Hid (K = _) := hK
                  clear hgr hK
                  have cx : wr.cell? ⟨ib, io + s, none⟩ = some (.string x) := by rw [HX.out]; exact ((gb_none G2 HG4.out).cell_far _ hib (by simp)).trans (HIN.out s hs3)
                  by_cases hv2 : v < 2
                  · have qv2 : (v : Int) < 2 := by omega
                    by_cases hv0 : v = 0
                    · have HV : Hid (v = 0) := hv0
                      have qv : ((v : Int) == 1) = false := beq_eq_false_iff_ne.2 (by omega)
                      clear hv0
                      go_wp2_with fail
                      clear cx qv
                      go_loopw [17, 25] (fun kv tv wr => ∃ (K tt : Nat), tt ≤ N ∧ kv = .int .i64 K ∧ tv = .int .i64 tt ∧ K = t + (s * (4 * N) + ((2 * j + v) * N + tt)) ∧ w2.grownBy wr none) (fun _ tv _ => N - (intOf tv).toNat)
                      case atStart => exact ⟨_, 0, Nat.zero_le _, rfl, rfl, by rw [HK4.out]; omega, HG4.out⟩
                      case round =>
                        obtain ⟨K, tt, htt, rfl, rfl, hK, hgr⟩ := hrel
                        have HG5 : Hid (w2.grownBy wr none) := hgr
                        have HK5 : Hid (K = _) := hK
                        clear hgr hK
                        by_cases hlt5 : tt < N
                        · have hT3 : Hid (Tab w.heap.size wr) := HT.out.none (gb_none G2 HG5.out) (Nat.le_refl _)
                          have hB3 : w.heap.size ≤ wr.heap.size := (gb_none G2 HG5.out).size
                          have cE := (HE.out.gbn HG5.out).cells
                          have hc4 : 2 * j + v = 0 := by have := HJ.out; have := HV.out; omega
                          have hel := start_in (N := N) (h := t) (ss := ss) (id := id) (len := n) (s := s) (c := 2 * j + v) (tt := tt) hs3 (by omega) hlt5
                          rw [← HX.out, ← HK5.out, hc4, castC0] at hel
                          obtain ⟨g, rfl, hkC, hcc, q0, hrg⟩ := at19_of (own_gbn HO.out HG5.out) hel
                          have HRG : Hid (wr.rangeAt _ _ _) := hrg
                          have hx0 : (0 : Int) ≤ (K : Int) := Int.natCast_nonneg _
                          have hx1 : (K : Int) < (C : Int) := by omega
                          clear hel hrg hc4
                          go_wp2_with (first | refine wpList_load_midg rfl 51 (.tmp 163) rfl g (K * 19 + 1) rfl _ _ HRG.out Ybad.underlying51 rfl (by kernel_rfl) ?_ | (go_at_call 8; refine (cast_any s 2 x (by omega) (by omega) (B := w.heap.size) _ (by exact hT3.out) (by exact hB3)).mono ?_; rintro e w3 ⟨rfl, g3⟩))
                          exact ⟨⟨K + 1, tt + 1, by omega, by go_num, by go_num, by rw [HK5.out]; omega, gb_none HG5.out g3⟩, by simp [intOf]; omega⟩
                        · obtain rfl : tt = N := by omega
                          go_wp2_with fail
                          exact ⟨⟨K, v + 1, by omega, rfl, by go_num, by rw [HK5.out, ← Nat.add_assoc (2 * j), Nat.add_mul (2 * j + v), Nat.one_mul], HG5.out⟩, by simp [intOf]; omega⟩
                    · have HV : Hid (v = 1) := by show v = 1; omega
                      have qv : ((v : Int) == 1) = true := beq_iff_eq.2 (by omega)
                      clear hv0
                      go_wp2_with fail
                      clear cx qv
                      go_loopw [17, 25] (fun kv tv wr => ∃ (K tt : Nat), tt ≤ N ∧ kv = .int .i64 K ∧ tv = .int .i64 tt ∧ K = t + (s * (4 * N) + ((2 * j + v) * N + tt)) ∧ w2.grownBy wr none) (fun _ tv _ => N - (intOf tv).toNat)
                      case atStart => exact ⟨_, 0, Nat.zero_le _, rfl, rfl, by rw [HK4.out]; omega, HG4.out⟩
                      case round =>
                        obtain ⟨K, tt, htt, rfl, rfl, hK, hgr⟩ := hrel
                        have HG5 : Hid (w2.grownBy wr none) := hgr
                        have HK5 : Hid (K = _) := hK
                        clear hgr hK
                        by_cases hlt5 : tt < N
                        · have hT3 : Hid (Tab w.heap.size wr) := HT.out.none (gb_none G2 HG5.out) (Nat.le_refl _)
                          have hB3 : w.heap.size ≤ wr.heap.size := (gb_none G2 HG5.out).size
                          have cE := (HE.out.gbn HG5.out).cells
                          have hc4 : 2 * j + v = 1 := by have := HJ.out; have := HV.out; omega
                          have hel := start_in (N := N) (h := t) (ss := ss) (id := id) (len := n) (s := s) (c := 2 * j + v) (tt := tt) hs3 (by omega) hlt5
                          rw [← HX.out, ← HK5.out, hc4, castC1] at hel
                          obtain ⟨g, rfl, hkC, hcc, q0, hrg⟩ := at19_of (own_gbn HO.out HG5.out) hel
                          have HRG : Hid (wr.rangeAt _ _ _) := hrg
                          have hx0 : (0 : Int) ≤ (K : Int) := Int.natCast_nonneg _
                          have hx1 : (K : Int) < (C : Int) := by omega
                          clear hel hrg hc4
                          go_wp2_with (first | refine wpList_load_midg rfl 51 (.tmp 163) rfl g (K * 19 + 1) rfl _ _ HRG.out Ybad.underlying51 rfl (by kernel_rfl) ?_ | (go_at_call 8; refine (cast_any s 2 (notS x) (by omega) (by omega) (B := w.heap.size) _ (by exact hT3.out) (by exact hB3)).mono ?_; rintro e w3 ⟨rfl, g3⟩))
                          exact ⟨⟨K + 1, tt + 1, by omega, by go_num, by go_num, by rw [HK5.out]; omega, gb_none HG5.out g3⟩, by simp [intOf]; omega⟩
                        · obtain rfl : tt = N := by omega
                          go_wp2_with fail
                          exact ⟨⟨K, v + 1, by omega, rfl, by go_num, by rw [HK5.out, ← Nat.add_assoc (2 * j), Nat.add_mul (2 * j + v), Nat.one_mul], HG5.out⟩, by simp [intOf]; omega⟩
                  · obtain hv3 : v = 2 := by omega
                    have HV3 : Hid (v = 2) := hv3
                    clear hv3
                    go_wp2_with fail
                    exact ⟨⟨K, j + 1, by omega, rfl, by go_num, by rw [HK4.out, HV3.out, show 2 * j + 2 = 2 * (j + 1) by omega], HG4.out⟩, by simp [intOf]; omega⟩
              · have HJ : Hid (j = 1) := by show j = 1; omega
                have qj : ((j : Int) == 1) = true := beq_iff_eq.2 (by omega)
                clear hj0
                go_wp2_with fail
                clear qj
                go_loopw [17, 23] (fun kv vv wr => ∃ (K v : Nat), v ≤ 2 ∧ kv = .int .i64 K ∧ vv = .int .i64 v ∧ K = t + (s * (4 * N) + (2 * j + v) * N) ∧ w2.grownBy wr none) (fun _ vv _ => 2 - (intOf vv).toNat)
                case atStart => exact ⟨_, 0, by omega, rfl, rfl, by rw [HK3.out]; rfl, HG3.out⟩
                case round =>
                  obtain ⟨K, v, hv, rfl, rfl, hK, hgr⟩ := hrel
                  have HG4 : Hid (w2.grownBy wr none) := hgr
                  have HK4 : Hid (K = _) := hK
                  clear hgr hK
                  have cx : wr.cell? ⟨ib, io + s, none⟩ = some (.string x) := by rw [HX.out]; exact ((gb_none G2 HG4.out).cell_far _ hib (by simp)).trans (HIN.out s hs3)
                  by_cases hv2 : v < 2
                  · have qv2 : (v : Int) < 2 := by omega
                    by_cases hv0 : v = 0
                    · have HV : Hid (v = 0) := hv0
                      have qv : ((v : Int) == 1) = false := beq_eq_false_iff_ne.2 (by omega)
                      clear hv0
                      go_wp2_with fail
                      clear cx qv
                      go_loopw [17, 25] (fun kv tv wr => ∃ (K tt : Nat), tt ≤ N ∧ kv = .int .i64 K ∧ tv = .int .i64 tt ∧ K = t + (s * (4 * N) + ((2 * j + v) * N + tt)) ∧ w2.grownBy wr none) (fun _ tv _ => N - (intOf tv).toNat)
                      case atStart => exact ⟨_, 0, Nat.zero_le _, rfl, rfl, by rw [HK4.out]; omega, HG4.out⟩
                      case round =>
                        obtain ⟨K, tt, htt, rfl, rfl, hK, hgr⟩ := hrel
                        have HG5 : Hid (w2.grownBy wr none) := hgr
                        have HK5 : Hid (K = _) := hK
                        clear hgr hK
                        by_cases hlt5 : tt < N
                        · have hT3 : Hid (Tab w.heap.size wr) := HT.out.none (gb_none G2 HG5.out) (Nat.le_refl _)
                          have hB3 : w.heap.size ≤ wr.heap.size := (gb_none G2 HG5.out).size
                          have cE := (HE.out.gbn HG5.out).cells
                          have hc4 : 2 * j + v = 2 := by have := HJ.out; have := HV.out; omega
                          have hel := start_in (N := N) (h := t) (ss := ss) (id := id) (len := n) (s := s) (c := 2 * j + v) (tt := tt) hs3 (by omega) hlt5
                          rw [← HX.out, ← HK5.out, hc4, castC2] at hel
                          obtain ⟨g, rfl, hkC, hcc, q0, hrg⟩ := at19_of (own_gbn HO.out HG5.out) hel
                          have HRG : Hid (wr.rangeAt _ _ _) := hrg
                          have hx0 : (0 : Int) ≤ (K : Int) := Int.natCast_nonneg _
                          have hx1 : (K : Int) < (C : Int) := by omega
                          clear hel hrg hc4
                          go_wp2_with (first | refine wpList_load_midg rfl 51 (.tmp 163) rfl g (K * 19 + 1) rfl _ _ HRG.out Ybad.underlying51 rfl (by kernel_rfl) ?_ | (go_at_call 8; refine (cast_any s 3 x (by omega) (by omega) (B := w.heap.size) _ (by exact hT3.out) (by exact hB3)).mono ?_; rintro e w3 ⟨rfl, g3⟩))
                          exact ⟨⟨K + 1, tt + 1, by omega, by go_num, by go_num, by rw [HK5.out]; omega, gb_none HG5.out g3⟩, by simp [intOf]; omega⟩
                        · obtain rfl : tt = N := by omega
                          go_wp2_with fail
                          exact ⟨⟨K, v + 1, by omega, rfl, by go_num, by rw [HK5.out, ← Nat.add_assoc (2 * j), Nat.add_mul (2 * j + v), Nat.one_mul], HG5.out⟩, by simp [intOf]; omega⟩
                    · have HV : Hid (v = 1) := by show v = 1; omega
                      have qv : ((v : Int) == 1) = true := beq_iff_eq.2 (by omega)
                      clear hv0
                      go_wp2_with fail
                      clear cx qv
                      go_loopw [17, 25] (fun kv tv wr => ∃ (K tt : Nat), tt ≤ N ∧ kv = .int .i64 K ∧ tv = .int .i64 tt ∧ K = t + (s * (4 * N) + ((2 * j + v) * N + tt)) ∧ w2.grownBy wr none) (fun _ tv _ => N - (intOf tv).toNat)
                      case atStart => exact ⟨_, 0, Nat.zero_le _, rfl, rfl, by rw [HK4.out]; omega, HG4.out⟩
                      case round =>
                        obtain ⟨K, tt, htt, rfl, rfl, hK, hgr⟩ := hrel
                        have HG5 : Hid (w2.grownBy wr none) := hgr
                        have HK5 : Hid (K = _) := hK
                        clear hgr hK
                        by_cases hlt5 : tt < N
                        · have hT3 : Hid (Tab w.heap.size wr) := HT.out.none (gb_none G2 HG5.out) (Nat.le_refl _)
                          have hB3 : w.heap.size ≤ wr.heap.size := (gb_none G2 HG5.out).size
                          have cE := (HE.out.gbn HG5.out).cells
                          have hc4 : 2 * j + v = 3 := by have := HJ.out; have := HV.out; omega
                          have hel := start_in (N := N) (h := t) (ss := ss) (id := id) (len := n) (s := s) (c := 2 * j + v) (tt := tt) hs3 (by omega) hlt5
                          rw [← HX.out, ← HK5.out, hc4, castC3] at hel
                          obtain ⟨g, rfl, hkC, hcc, q0, hrg⟩ := at19_of (own_gbn HO.out HG5.out) hel
                          have HRG : Hid (wr.rangeAt _ _ _) := hrg
                          have hx0 : (0 : Int) ≤ (K : Int) := Int.natCast_nonneg _
                          have hx1 : (K : Int) < (C : Int) := by omega
                          clear hel hrg hc4
                          go_wp2_with (first | refine wpList_load_midg rfl 51 (.tmp 163) rfl g (K * 19 + 1) rfl _ _ HRG.out Ybad.underlying51 rfl (by kernel_rfl) ?_ | (go_at_call 8; refine (cast_any s 3 (notS x) (by omega) (by omega) (B := w.heap.size) _ (by exact hT3.out) (by exact hB3)).mono ?_; rintro e w3 ⟨rfl, g3⟩))
                          exact ⟨⟨K + 1, tt + 1, by omega, by go_num, by go_num, by rw [HK5.out]; omega, gb_none HG5.out g3⟩, by simp [intOf]; omega⟩
                        · obtain rfl : tt = N := by omega
                          go_wp2_with fail
                          exact ⟨⟨K, v + 1, by omega, rfl, by go_num, by rw [HK5.out, ← Nat.add_assoc (2 * j), Nat.add_mul (2 * j + v), Nat.one_mul], HG5.out⟩, by simp [intOf]; omega⟩
                  · obtain hv3 : v = 2 := by omega
                    have HV3 : Hid (v = 2) := hv3
                    clear hv3
                    go_wp2_with fail
                    exact ⟨⟨K, j + 1, by omega, rfl, by go_num, by rw [HK4.out, HV3.out, show 2 * j + 2 = 2 * (j + 1) by omega], HG4.out⟩, by simp [intOf]; omega⟩
            · obtain hj3 : j = 2 := by omega
              have HJ3 : Hid (j = 2) := hj3
              clear hj3
              go_wp2_with fail
              exact ⟨⟨K, s + 1, by omega, rfl, by go_num, by rw [HK3.out, HJ3.out, Nat.add_mul s 1, Nat.one_mul], HG3.out⟩, by simp [intOf]; omega⟩
        · go_wp2_with fail
          go_ret
          exact ⟨rfl, gb_below (gb_none G2 HG2.out) (Nat.le_refl _) (fun k e => by cases e)⟩

set_option maxRecDepth 100000 in
theorem start_walk (a0 : Option Addr) (len0 cap0 : Nat) (ss : List ByteArray) (x1 x2 x3 : Int) (w : World) (hT : Tab w.heap.size w) (h0 : IsStrs w a0 len0 cap0 ss)
    (a1 : 0 ≤ x1) (a2 : x1 ≤ 255) (b1 : 0 ≤ x2) (b2 : x2 ≤ 255) (c1 : 0 ≤ x3) (c2 : x3 ≤ 255) :
    Calls Ybad.prog 3 #[.slice a0 len0 cap0, .int .u8 x1, .int .u8 x2, .int .u8 x3] w fun e w' => e = .returned (.bool true) ∧ Below w.heap.size w w' := by
  by_cases hbig : 256 < len0
  · have h1' : (256 : Int) < (len0 : Int) := by omega
    go_enter Ybad.func3, Ybad.ntmps3
    go_wp2_with fail
    go_ret
    exact ⟨rfl, Below.refl _ _⟩
  by_cases hz : len0 = 0
  · subst hz
    go_enter Ybad.func3, Ybad.ntmps3
    go_wp2_with fail
    go_ret
    exact ⟨rfl, Below.refl _ _⟩
  obtain ⟨N, rfl⟩ := Int.eq_ofNat_of_zero_le a1
  obtain ⟨b, rfl⟩ := Int.eq_ofNat_of_zero_le b1
  obtain ⟨c, rfl⟩ := Int.eq_ofNat_of_zero_le c1
  rcases h0 with ⟨_, h, _⟩ | ⟨x, rfl, hl, hcell, hsz⟩
  · exact absurd h hz
  · obtain ⟨ib, io, rfl, hc2⟩ := strs_at hcell (by omega)
    exact start_pos ib io len0 cap0 N _ _ b c ss w hT (by omega) (by omega) hl (by omega) (by omega) (by omega) rfl rfl (World.block_lt_of_cell? _ _ (hc2 0 (by omega))) hc2 hsz
end Go.Proofs.YbulkxuDoor
