import Derived.Test.YbulkxuDoorE2
namespace Go.Proofs.YbulkxuDoor
open Go.RowKit
set_option linter.all false

set_option maxRecDepth 100000 in
set_option maxHeartbeats 4000000 in
theorem equivocator_any (N h F id len cap ib io : Nat) (ss : List ByteArray) (w : World) (B : Nat) (hB : B ≤ w.heap.size) (hT : Tab B w) (hN : N ≤ 255) (hF : F ≤ N) (hh : h = N - F) (hid : id < len) (hlen : len ≤ 256) (hcap : len ≤ cap)
    (hib : ib < w.heap.size) (hin : ∀ i, i < len → w.cell? ⟨ib, io + i, none⟩ = some (.string (ss.getD i ByteArray.empty))) (hsz : ∀ i, i < len → (ss.getD i ByteArray.empty).size ≤ 140737488355328) :
    Calls Ybad.prog 7 #[.agg #[.slice (some ⟨ib, io, none⟩) len cap, .string ⟨#[]⟩], .agg #[.int .i64 N, .int .i64 F, .int .i64 0, .int .i64 0, .int .u64 0, .slice none 0 0], .int .i64 id] w fun e w' =>
      ∃ Eb gb ab mb ebs o c, e = .returned (.pointer (some ⟨Eb, 0, none⟩)) ∧ BlkIs w' Eb #[.slice o (startCnt N h len) c, .pointer (some ⟨gb, 0, none⟩)] 38 ∧ w'.ownsRow w.heap.size 53 19 (.slice o (startCnt N h len) c) (startCnt N h len) (startOf N h ss id len) ∧
        BlkIs w' gb #[.slice (some ⟨ab, 0, none⟩) N N, .map (some mb)] 59 ∧ BlkIs w' ab (ptrs ebs N).toArray 60 ∧ w'.heap[mb]? = some (.map (ents ebs).toArray N) ∧ ebs.length = N ∧ (∀ t, t < N → BlkIs w' (ebs.getD t 0) (eqc t N F id) 63) ∧ w.grownBy w' none := by
  have hmk1 := fun wx => run_make_row' (P := Ybad.prog) 22 9 (.string ⟨#[]⟩) 16 Ybad.underlying22 Ybad.info9 rfl .i64 .i64 N (by omega) (by omega) wx
  have hmk2 := fun wx => run_make_row' (P := Ybad.prog) 70 3 (.int .i64 0) 8 Ybad.underlying70 Ybad.info3 rfl .i64 .i64 N (by omega) (by omega) wx
  have HIN : Hid (∀ i, i < len → _) := hin
  have HT : Hid (Tab B w) := hT
  have HH : Hid (h = N - F) := hh
  clear hin hT hh
  go_enter Ybad.func7, Ybad.ntmps7
  go_wp2_with fail
  go_cut [7, 8] (fun sv ov wc => ∃ sb ob, sv = .slice (some ⟨sb, 0, none⟩) N N ∧ ov = .slice (some ⟨ob, 0, none⟩) N N ∧ Two ((w.alloc (.cells #[.slice (some ⟨ib, io, none⟩) len cap, .string ⟨#[]⟩] 27)).alloc (.cells (cfg N F) 32)) wc sb ob N 0)
  case first =>
    go_region_held3 (fun w' => ∀ o, w'.cell? ⟨w.heap.size + 1, o, none⟩ = (#[.int .i64 N, .int .i64 F, .int .i64 0, .int .i64 0, .int .u64 0, .slice none 0 0] : Array Value)[o]?)
      (first | exact cfg_at0 w _ | exact cfg_at1 w _ _ | exact cfg_at2 w _ _ _) (fail)
    all_goals (try go_wp2_with fail)
    all_goals go_meet
    · case rel => exact ⟨_, _, rfl, rfl, two1 _ _ N (by simp)⟩
    · case rel => exact ⟨_, _, rfl, rfl, two2 _ _ N (by simp)⟩
  case rest =>
    obtain ⟨sb, ob, rfl, rfl, hTwo⟩ := hcut
    have H2 : Hid (Two _ _ _ _ _ _) := hTwo
    clear hTwo hmk1 hmk2
    go_wp2_with fail
    go_loopw [26] (fun iv wr => ∃ j : Nat, j ≤ N ∧ iv = .int .i64 j ∧ Two ((w.alloc (.cells #[.slice (some ⟨ib, io, none⟩) len cap, .string ⟨#[]⟩] 27)).alloc (.cells (cfg N F) 32)) wr sb ob N j) (fun iv _ => N - (intOf iv).toNat)
    case atStart => exact ⟨0, Nat.zero_le _, rfl, H2.out⟩
    case round =>
      obtain ⟨j, hj, rfl, hTwo⟩ := hrel
      clear H2
      obtain ⟨hsb, hob, l1, l2, l3, hgr⟩ := hTwo
      have G0 := gb_none (gb_none (World.grownBy_alloc w (.cells #[.slice (some ⟨ib, io, none⟩) len cap, .string ⟨#[]⟩] 27) none) (World.grownBy_alloc _ (.cells (cfg N F) 32) none)) hgr
      by_cases hlt : j < N
      · have HTr : Hid (Tab B wr) := HT.out.none G0 hB
        go_wp2_with fail
        refine (agreement_any j (by omega) (by omega) (B := B) _ HTr.out).mono ?_
        rintro e w1 ⟨rfl, g1⟩
        have hs1 := hsb.gbn g1
        have ho1 := hob.gbn g1
        have c1 : w1.cell? ⟨sb, j, none⟩ = some (cellAt w1 sb j) := cellAt_of (by rw [hs1.cells j]; simp [sessTo_length (Nat.le_of_lt hlt)]; exact hlt)
        have f1 : w1.frozen? ⟨sb, j, none⟩ = false := frozen_of_row _ _ _ _ _ hs1
        have hs2 := hs1.set (j := j) (.string (agS j))
        have ho2 := ho1.setOther (c := sb) (j := j) (.string (agS j)) (fun e => l3 e.symm)
        have c2 : (w1.setCell ⟨sb, j, none⟩ (.string (agS j))).cell? ⟨ob, j, none⟩ = some (cellAt (w1.setCell ⟨sb, j, none⟩ (.string (agS j))) ob j) := cellAt_of (by rw [ho2.cells j]; simp [onesTo_length (Nat.le_of_lt hlt)]; exact hlt)
        have f2 : (w1.setCell ⟨sb, j, none⟩ (.string (agS j))).frozen? ⟨ob, j, none⟩ = false := frozen_of_row _ _ _ _ _ ho2
        have q1 : (j : Int) < (N : Int) := by omega
        go_wp2_with fail
        have hs3 := hs2.setOther (c := ob) (j := j) (.int .i64 1) l3
        have ho3 := ho2.set (j := j) (.int .i64 1)
        rw [List.setIfInBounds_toArray, sessTo_set hlt] at hs3
        rw [List.setIfInBounds_toArray, onesTo_set hlt] at ho3
        have T3 : Two ((w.alloc (.cells #[.slice (some ⟨ib, io, none⟩) len cap, .string ⟨#[]⟩] 27)).alloc (.cells (cfg N F) 32)) ((w1.setCell ⟨sb, j, none⟩ (.string (agS j))).setCell ⟨ob, j, none⟩ (.int .i64 1)) sb ob N (j + 1) :=
          ⟨hs3, ho3, l1, l2, l3, gb_trans (gb_trans (gb_none hgr g1) (gb_setCell w1 ⟨sb, j, none⟩ _) (fun i e hi => by have e1 : sb = i := Option.some.inj e; omega)) (gb_setCell _ ⟨ob, j, none⟩ _) (fun i e hi => by have e1 : ob = i := Option.some.inj e; omega)⟩
        clear c1 c2 f1 f2
        go_roundw
        case rel => exact ⟨j + 1, by omega, by go_num, T3⟩
        case measure => simp [intOf]; omega
      · obtain rfl : N = j := by omega
        rw [sessTo_full] at hsb
        rw [onesTo_full] at hob
        have b27 : BlkIs wr w.heap.size #[.slice (some ⟨ib, io, none⟩) len cap, .string ⟨#[]⟩] 27 := (((BlkIs.new w _ _).alloc (.cells (cfg N F) 32))).gbn hgr
        have b32 : BlkIs wr (w.heap.size + 1) (cfg N F) 32 := (BlkIs.newAt (w := w.alloc (.cells #[.slice (some ⟨ib, io, none⟩) len cap, .string ⟨#[]⟩] 27)) (by simp) _ _).gbn hgr
        have c32 := b32.cells
        unfold cfg at c32
        go_wp2_with fail
        refine (newEqs_any N F id sb ob wr hN (by omega) (by omega) hsb hob).mono ?_
        rintro e w1 ⟨gb, ab, mb, ebs, rfl, hgb, hab, hmb, hle, hbs, hge, g1⟩
        clear c32 hsb hob
        have G1 := gb_none G0 g1
        obtain ⟨own, hown⟩ : ∃ own, own = ss.getD id ByteArray.empty := ⟨_, rfl⟩
        have cin : w1.cell? ⟨ib, io + id, none⟩ = some (.string own) := by rw [hown]; exact (G1.cell_far _ hib (by simp)).trans (HIN.out id hid)
        have hos : own.size ≤ 140737488355328 := by rw [hown]; exact hsz id hid
        have c27 := (b27.gbn g1).cells
        have q1 : (id : Int) < (len : Int) := by omega
        have hwlt : w.heap.size < w1.heap.size := (b27.gbn g1).lt
        have hibl : ib < w1.heap.size := by omega
        have HOWN : Hid (own = _) := hown
        clear hown
        go_wp2_with fail
        obtain ⟨Eb, hEb⟩ : ∃ Eb, Eb = w1.heap.size := ⟨_, rfl⟩
        obtain ⟨w3, hw3⟩ : ∃ w3, w3 = w1.alloc (.cells #[.slice none 0 0, .pointer (some ⟨gb, 0, none⟩)] 38) := ⟨_, rfl⟩
        rw [← hw3, ← hEb]
        have g3 : w1.grownBy w3 none := by rw [hw3]; exact World.grownBy_alloc _ _ _
        have G3 := gb_none G1 g3
        have E3 : BlkIs w3 Eb #[.slice none 0 0, .pointer (some ⟨gb, 0, none⟩)] 38 := by rw [hw3, hEb]; exact BlkIs.new _ _ _
        have l32 : w.heap.size + 1 < w1.heap.size := (b32.gbn g1).lt
        have b27 := (b27.gbn g1).gbn g3
        have b32 := (b32.gbn g1).gbn g3
        have z3 : w3.heap.size = Eb + 1 := by rw [hw3, hEb]; simp
        have HW3 : Hid (w3 = _) := hw3
        have HEb : Hid (Eb = _) := hEb
        clear hw3 hEb c27 cin
        have hNF : (N : Int) - (F : Int) = (h : Int) := by have := HH.out; omega
        have T3 : Hid (Tab B w3) := HT.out.none G3 hB
        have hB3 : B ≤ w3.heap.size := Nat.le_trans hB G3.size
        have leb3 : Eb < w3.heap.size := by omega
        have cE : w3.cell? ⟨Eb, 0, none⟩ = some (.slice none 0 0) := by rw [E3.cells 0]; rfl
        have ne32 : w.heap.size + 1 ≠ Eb := by have := HEb.out; omega
        have tok1 : True := trivial
        go_cut [] (fun wc => St w3 wc Eb gb h (halves h (amsg id 1 own) (amsg id 1 (notS own)) h))
        case first =>
          refine wp_region_K (fun w' => w'.cell? ⟨Eb, 0, none⟩ = some (.slice none 0 0) ∧ w'.cell? ⟨w.heap.size + 1, 0, none⟩ = some (.int .i64 N) ∧ w'.cell? ⟨w.heap.size + 1, 1, none⟩ = some (.int .i64 F)) 20 (by kernel_rfl) ⟨E3.cells 0, b32.cells 0, b32.cells 1⟩ (fun hHeld => ?_)
          refine wpAnyK_take (i := 0) (v := ?v1) rfl (by kernel_rfl) (by kernel_rfl) (by kernel_rfl) (by kernel_rfl) (fun _ _ _ h => h) (Or.inl ⟨by rfl, ?hy1⟩) hHeld ?rest1
          case hy1 => (intro w hSw; (try dsimp only at hSw); go_simp; try with_reducible rfl)
          simp only [Act.put, List.setIfInBounds_toArray, List.set_cons_zero, List.set_cons_succ]
          refine wpAnyK_take (i := 1) (v := ?v2) rfl (by kernel_rfl) (by kernel_rfl) (by kernel_rfl) (by kernel_rfl) (fun _ _ _ h => h) (Or.inl ⟨by rfl, ?hy2⟩) hHeld ?rest2
          case hy2 => (intro w hSw; (try dsimp only at hSw); go_simp; try with_reducible rfl)
          simp only [Act.put, List.setIfInBounds_toArray, List.set_cons_zero, List.set_cons_succ]
          refine wpAnyK_take (i := 2) (v := ?v3) rfl (by kernel_rfl) (by kernel_rfl) (by kernel_rfl) (by kernel_rfl) (fun _ _ _ h => h) (Or.inl ⟨by rfl, ?hy3⟩) hHeld ?rest3
          case hy3 => (intro w hSw; (try dsimp only at hSw); go_simp; try with_reducible rfl)
          simp only [Act.put, List.setIfInBounds_toArray, List.set_cons_zero, List.set_cons_succ]
          refine wpAnyK_take (i := 3) (v := ?v4) rfl (by kernel_rfl) (by kernel_rfl) (by kernel_rfl) (by kernel_rfl) (fun _ _ _ h => h) (Or.inl ⟨by rfl, ?hy4⟩) hHeld ?rest4
          case hy4 => (intro w hSw; (try dsimp only at hSw); go_simp; try with_reducible rfl)
          simp only [Act.put, List.setIfInBounds_toArray, List.set_cons_zero, List.set_cons_succ]
          refine wpAnyK_take (i := 4) (v := ?v5) rfl (by kernel_rfl) (by kernel_rfl) (by kernel_rfl) (by kernel_rfl) (fun _ _ _ h => h) (Or.inl ⟨by rfl, ?hy5⟩) hHeld ?rest5
          case hy5 => (intro w hSw; (try dsimp only at hSw); go_simp; try with_reducible rfl)
          simp only [Act.put, List.setIfInBounds_toArray, List.set_cons_zero, List.set_cons_succ]
          refine wpAnyK_take (i := 5) (v := ?v6) rfl (by kernel_rfl) (by kernel_rfl) (by kernel_rfl) (by kernel_rfl) (fun _ _ _ h => h) (Or.inl ⟨by rfl, ?hy6⟩) hHeld ?rest6
          case hy6 => (intro w hSw; (try dsimp only at hSw); go_simp; try with_reducible rfl)
          simp only [Act.put, List.setIfInBounds_toArray, List.set_cons_zero, List.set_cons_succ]
          refine wpAnyK_take (i := 6) (v := ?v7) rfl (by kernel_rfl) (by kernel_rfl) (by kernel_rfl) (by kernel_rfl) (fun _ _ _ h => h) (Or.inl ⟨by rfl, ?hy7⟩) hHeld ?rest7
          case hy7 => (intro w hSw; (try dsimp only at hSw); go_simp; try with_reducible rfl)
          simp only [Act.put, List.setIfInBounds_toArray, List.set_cons_zero, List.set_cons_succ]
          refine wpAnyK_take (i := 7) (v := ?v8) rfl (by kernel_rfl) (by kernel_rfl) (by kernel_rfl) (by kernel_rfl) (fun _ _ _ h => h) (Or.inl ⟨by rfl, ?hy8⟩) hHeld ?rest8
          case hy8 => (intro w hSw; (try dsimp only at hSw); go_simp; try with_reducible rfl)
          simp only [Act.put, List.setIfInBounds_toArray, List.set_cons_zero, List.set_cons_succ]
          refine wpAnyK_take (i := 8) (v := ?v9) rfl (by kernel_rfl) (by kernel_rfl) (by kernel_rfl) (by kernel_rfl) (fun _ _ _ h => h) (Or.inl ⟨by rfl, ?hy9⟩) hHeld ?rest9
          case hy9 => (intro w hSw; (try dsimp only at hSw); go_simp; try with_reducible rfl)
          simp only [Act.put, List.setIfInBounds_toArray, List.set_cons_zero, List.set_cons_succ]
          refine wpAnyK_take (i := 9) (v := ?v10) rfl (by kernel_rfl) (by kernel_rfl) (by kernel_rfl) (by kernel_rfl) (fun _ _ _ h => h) (Or.inl ⟨by rfl, ?hy10⟩) hHeld ?rest10
          case hy10 => (intro w hSw; (try dsimp only at hSw); go_simp; try with_reducible rfl)
          simp only [Act.put, List.setIfInBounds_toArray, List.set_cons_zero, List.set_cons_succ]
          refine wpAnyK_take (i := 10) (v := ?v11) rfl (by kernel_rfl) (by kernel_rfl) (by kernel_rfl) (by kernel_rfl) (fun _ _ _ h => h) (Or.inl ⟨by rfl, ?hy11⟩) hHeld ?rest11
          case hy11 => (intro w hSw; (try dsimp only at hSw); go_simp; try with_reducible rfl)
          simp only [Act.put, List.setIfInBounds_toArray, List.set_cons_zero, List.set_cons_succ]
          refine wpAnyK_take (i := 11) (v := ?v12) rfl (by kernel_rfl) (by kernel_rfl) (by kernel_rfl) (by kernel_rfl) (fun _ _ _ h => h) (Or.inl ⟨by rfl, ?hy12⟩) hHeld ?rest12
          case hy12 => (intro w hSw; (try dsimp only at hSw); go_simp; try with_reducible rfl)
          simp only [Act.put, List.setIfInBounds_toArray, List.set_cons_zero, List.set_cons_succ]
          refine wpAnyK_take (i := 13) (v := ?v13) rfl (by kernel_rfl) (by kernel_rfl) (by kernel_rfl) (by kernel_rfl) (fun _ _ _ h => h) (Or.inl ⟨by rfl, ?hy13⟩) hHeld ?rest13
          case hy13 => (intro w hSw; (try dsimp only at hSw); go_simp; try with_reducible rfl)
          simp only [Act.put, List.setIfInBounds_toArray, List.set_cons_zero, List.set_cons_succ]
          refine wpAnyK_take (i := 14) (v := ?v14) rfl (by kernel_rfl) (by kernel_rfl) (by kernel_rfl) (by kernel_rfl) (fun _ _ _ h => h) (Or.inl ⟨by rfl, ?hy14⟩) hHeld ?rest14
          case hy14 => (intro w hSw; (try dsimp only at hSw); go_simp; try with_reducible rfl)
          simp only [Act.put, List.setIfInBounds_toArray, List.set_cons_zero, List.set_cons_succ]
          refine wpAnyK_one (i := 12) (by kernel_rfl) rfl (fun K hK => ?_)
          go_wp2_with (go_at_call 16; refine (acsCast_any id 1 own (by omega) (by omega) (B := B) _ (by exact tab_drew T3.out) (by exact hB3)).mono ?_; rintro e w4 ⟨rfl, g4⟩)
          have hHeld' : (fun w' : World => w'.cell? ⟨Eb, 0, none⟩ = some (.slice none 0 0) ∧ w'.cell? ⟨w.heap.size + 1, 0, none⟩ = some (.int .i64 N) ∧ w'.cell? ⟨w.heap.size + 1, 1, none⟩ = some (.int .i64 F)) w4 := ⟨(E3.gbn (gb_undrew g4)).cells 0, (b32.gbn (gb_undrew g4)).cells 0, (b32.gbn (gb_undrew g4)).cells 1⟩
          refine hK.out _ _ hHeld' ?_
          clear hK K hHeld
          have hHeld := hHeld'
          clear hHeld'
          refine wpAnyK_one (i := 15) (by kernel_rfl) rfl (fun K hK => ?_)
          go_wp2_with (go_at_call 17; refine (equivocated_at own hos _).mono ?_; rintro e w' ⟨rfl, rfl⟩)
          have hHeld' : (fun w' : World => w'.cell? ⟨Eb, 0, none⟩ = some (.slice none 0 0) ∧ w'.cell? ⟨w.heap.size + 1, 0, none⟩ = some (.int .i64 N) ∧ w'.cell? ⟨w.heap.size + 1, 1, none⟩ = some (.int .i64 F)) w4 := ⟨(E3.gbn (gb_undrew g4)).cells 0, (b32.gbn (gb_undrew g4)).cells 0, (b32.gbn (gb_undrew g4)).cells 1⟩
          refine hK.out _ _ hHeld' ?_
          clear hK K hHeld
          have hHeld := hHeld'
          clear hHeld'
          refine wpAnyK_one (i := 16) (by kernel_rfl) rfl (fun K hK => ?_)
          go_wp2_with (go_at_call 16; refine (acsCast_any id 1 (notS own) (by omega) (by omega) (B := B) _ (by exact T3.out.none (gb_undrew g4) hB3) (by exact Nat.le_trans hB3 g4.size)).mono ?_; rintro e w5 ⟨rfl, g5⟩)
          have hHeld' : (fun w' : World => w'.cell? ⟨Eb, 0, none⟩ = some (.slice none 0 0) ∧ w'.cell? ⟨w.heap.size + 1, 0, none⟩ = some (.int .i64 N) ∧ w'.cell? ⟨w.heap.size + 1, 1, none⟩ = some (.int .i64 F)) w5 := ⟨((E3.gbn (gb_undrew g4)).gbn g5).cells 0, ((b32.gbn (gb_undrew g4)).gbn g5).cells 0, ((b32.gbn (gb_undrew g4)).gbn g5).cells 1⟩
          refine hK.out _ _ hHeld' ?_
          clear hK K hHeld
          have hHeld := hHeld'
          clear hHeld'
          have hE5 : Eb + 1 ≤ w5.heap.size := by have a1 := (gb_undrew g4).size; have a2 := g5.size; omega
          refine wpAnyK_one (i := 17) (by kernel_rfl) rfl (fun K hK => ?_)
          go_wp2_with (go_at_call 15; refine (toHalvesA_sl (amsg id 1 own) (amsg id 1 (notS own)) rfl rfl (amsg_one _ _ _) (amsg_one _ _ _) h (.slice none 0 0) 0 [] (Eb + 1) _ (by exact hE5) (by exact World.ownsRow_nil _ _ _ _) (by have := HH.out; omega)).mono ?_; rintro e w6 ⟨o6, c6, rfl, O6, g6, at6⟩; simp only [Nat.zero_add, List.nil_append] at O6 at6 ⊢)
          have E6 : BlkIs w6 Eb #[.slice none 0 0, .pointer (some ⟨gb, 0, none⟩)] 38 := ((E3.gbn (gb_undrew g4)).gbn g5).gb g6 (by simp [Value.ownBlock])
          have B6 : BlkIs w6 (w.heap.size + 1) (cfg N F) 32 := ((b32.gbn (gb_undrew g4)).gbn g5).gb g6 (by simp [Value.ownBlock])
          have hHeld' : (fun w' : World => w'.cell? ⟨Eb, 0, none⟩ = some (.slice none 0 0) ∧ w'.cell? ⟨w.heap.size + 1, 0, none⟩ = some (.int .i64 N) ∧ w'.cell? ⟨w.heap.size + 1, 1, none⟩ = some (.int .i64 F)) w6 := ⟨E6.cells 0, B6.cells 0, B6.cells 1⟩
          refine hK.out _ _ hHeld' ?_
          clear hK K hHeld
          have hHeld := hHeld'
          clear hHeld'
          refine wpAnyK_one (i := 18) (by kernel_rfl) rfl (fun K hK => ?_)
          go_wp2_with fail
          refine hK.out _ _ hHeld ?_
          clear hK K
          refine wpAnyK_take (i := 19) (v := ?v15) rfl (by kernel_rfl) (by kernel_rfl) (by kernel_rfl) (by kernel_rfl) (fun _ _ _ h => h) (Or.inl ⟨by rfl, ?hy15⟩) hHeld ?rest15
          case hy15 => (intro w hSw; (try dsimp only at hSw); go_simp; try with_reducible rfl)
          simp only [Act.put, List.setIfInBounds_toArray, List.set_cons_zero, List.set_cons_succ]
          have k6 : w6.cell? ⟨Eb, 0, none⟩ = some (.slice none 0 0) := by rw [E6.cells 0]; rfl
          have f6 : w6.frozen? ⟨Eb, 0, none⟩ = false := frozen_of_row _ _ _ _ _ E6
          refine wpAnyK_last (by kernel_rfl) rfl (by kernel_rfl) (fun K hK => ?_)
          go_wp2_with fail
          refine hK.out _ _ ?_
          clear hK K
          go_wp2_with fail
          go_meet
          case rel =>
            have e3 := (gb_none (gb_none (gb_weak (r := some Eb) (gb_undrew g4)) g5) (g6 : w5.grownBy w6 none))
            exact ⟨o6, c6, E6.set (j := 0) _, O6.kept (gb_setCell w6 ⟨Eb, 0, none⟩ _) (.inr (fun e => by have := (O6.lt Eb e).1; omega)), gb_trans e3 (gb_setCell w6 ⟨Eb, 0, none⟩ _) (fun i e _ => e)⟩
        case rest =>
          have hS := hcut.three
          clear hcut
          obtain ⟨xs0, hxs0⟩ : ∃ xs0, xs0 = halves h (amsg id 1 own) (amsg id 1 (notS own)) h := ⟨_, rfl⟩
          rw [← hxs0] at hS
          have HXS : Hid (xs0 = _) := hxs0
          clear hxs0 cE
          have HS : Hid (St3 _ _ _ _ _ _ _) := hS
          have hh255 : h ≤ 255 := by have := HH.out; omega
          have ne27 : w.heap.size ≠ Eb := by have := HEb.out; omega
          have neib : ib ≠ Eb := by have := HEb.out; omega
          have b27c : BlkIs wc w.heap.size #[.slice (some ⟨ib, io, none⟩) len cap, .string ⟨#[]⟩] 27 := by
            obtain ⟨o, c, h1, h2, h3, h4⟩ := hS
            exact b27.gb h3 (by simp; exact ne27)
          have c27 := b27c.cells
          clear hS b27c
          go_wp2_with fail
          clear c27
          go_loopw [75] (fun iv wr => ∃ m : Nat, m ≤ len ∧ iv = .int .i64 m ∧ St3 w3 wr Eb gb (h + m * (4 * N)) (xs0 ++ inTo N ss m) []) (fun iv _ => len - (intOf iv).toNat)
          case atStart => exact ⟨0, Nat.zero_le _, rfl, HS.out.to (by simp) (by simp [inTo])⟩
          case round =>
            obtain ⟨m, hm, rfl, hS⟩ := hrel
            clear HS
            by_cases hlt : m < len
            · obtain ⟨x, hx⟩ : ∃ x, x = ss.getD m ByteArray.empty := ⟨_, rfl⟩
              have hxz : x.size ≤ 140737488355328 := by rw [hx]; exact hsz m hlt
              have cx : wr.cell? ⟨ib, io + m, none⟩ = some (.string x) := by
                obtain ⟨o, c, h1, h2, h3, h4⟩ := hS
                rw [hx]
                exact (h3.cell_far (⟨ib, io + m, none⟩ : Addr) (Nat.lt_of_lt_of_le hib G3.size) (by simp; exact neib)).trans ((G3.cell_far _ hib (by simp)).trans (HIN.out m hlt))
              have HX : Hid (x = _) := hx
              have HS2 : Hid (St3 _ _ _ _ _ _ _) := hS
              have qm : (m : Int) < (len : Int) := by omega
              clear hx hS
              go_wp2_with fail
              clear cx
              obtain ⟨b1, hb1⟩ : ∃ b1, b1 = wr.heap.size := ⟨_, rfl⟩
              obtain ⟨w5, hw5⟩ : ∃ w5, w5 = wr.alloc (.cells #[.int .u8 2, .int .u8 3] 40) := ⟨_, rfl⟩
              rw [← hw5, ← hb1]
              have HS3 : Hid (St3 w3 w5 Eb gb (h + m * (4 * N)) (xs0 ++ inTo N ss m) [b1]) := by rw [hw5, hb1]; exact HS2.out.new _
              have HB1 : Hid (BlkIs w5 b1 #[.int .u8 2, .int .u8 3] 40) := by rw [hw5, hb1]; exact BlkIs.new _ _ _
              clear HS2 hw5 hb1
              go_loopw [82] (fun kv wr => ∃ k : Nat, k ≤ 2 ∧ kv = .int .i64 k ∧ St3 w3 wr Eb gb (h + m * (4 * N) + (2 * k) * N) (xs0 ++ inTo N ss m ++ partC N x m (2 * k)) [b1] ∧ BlkIs wr b1 #[.int .u8 2, .int .u8 3] 40) (fun kv _ => 2 - (intOf kv).toNat)
              case atStart => exact ⟨0, by omega, rfl, HS3.out.to (by simp) (by simp [partC]), HB1.out⟩
              case round =>
                obtain ⟨k, hk, rfl, hS, hB1⟩ := hrel
                clear HS3 HB1
                have HS4 : Hid (St3 _ _ _ _ _ _ _) := hS
                have HB4 : Hid (BlkIs _ b1 _ _) := hB1
                clear hS hB1
                by_cases hk2 : k < 2
                · obtain ⟨kd, hkd⟩ : ∃ kd : Int, kd = 2 + (k : Int) := ⟨_, rfl⟩
                  have ck : wr.cell? ⟨b1, k, none⟩ = some (.int .u8 kd) := by
                    rw [HB4.out.cells, hkd]
                    obtain rfl | rfl : k = 0 ∨ k = 1 := by omega
                    · rfl
                    · rfl
                  have HKD : Hid (kd = _) := hkd
                  have qk : (k : Int) < 2 := by omega
                  clear hkd
                  go_wp2_with (go_at_call 17; refine (equivocated_at x hxz _).mono ?_; rintro e w' ⟨rfl, rfl⟩)
                  clear ck
                  obtain ⟨b2, hb2⟩ : ∃ b2, b2 = wr.heap.size := ⟨_, rfl⟩
                  obtain ⟨w6, hw6⟩ : ∃ w6, w6 = wr.alloc (.cells #[.string x, .string (notS x)] 9) := ⟨_, rfl⟩
                  rw [← hw6, ← hb2]
                  have HS5 : Hid (St3 w3 w6 Eb gb (h + m * (4 * N) + (2 * k) * N) (xs0 ++ inTo N ss m ++ partC N x m (2 * k)) [b2, b1]) := by rw [hw6, hb2]; exact HS4.out.new _
                  have HB1 : Hid (BlkIs w6 b1 #[.int .u8 2, .int .u8 3] 40) := by rw [hw6]; exact HB4.out.alloc _
                  have HB2 : Hid (BlkIs w6 b2 #[.string x, .string (notS x)] 9) := by rw [hw6, hb2]; exact BlkIs.new _ _ _
                  have HNE : Hid (b2 ≠ Eb ∧ b1 ≠ Eb) := by
                    obtain ⟨o, c, h1, h2, h3, h4⟩ := HS4.out
                    have a1 := h1.lt
                    refine ⟨by omega, ?_⟩
                    intro e
                    have a2 := HB4.out
                    rw [e] at a2
                    have := a2.symm.trans h1
                    simp at this
                  clear HS4 HB4 hw6 hb2
                  go_loopw [91] (fun vv wr => ∃ v : Nat, v ≤ 2 ∧ vv = .int .i64 v ∧ St3 w3 wr Eb gb (h + m * (4 * N) + (2 * k + v) * N) (xs0 ++ inTo N ss m ++ partC N x m (2 * k + v)) [b2, b1] ∧ BlkIs wr b1 #[.int .u8 2, .int .u8 3] 40 ∧ BlkIs wr b2 #[.string x, .string (notS x)] 9) (fun vv _ => 2 - (intOf vv).toNat)
                  case atStart => exact ⟨0, by omega, rfl, HS5.out, HB1.out, HB2.out⟩
                  case round =>
                    obtain ⟨v, hv, rfl, hS, hB1, hB2⟩ := hrel
                    clear HS5 HB1 HB2
                    by_cases hv2 : v < 2
                    · obtain ⟨val, hval⟩ : ∃ val, val = (if v = 0 then x else notS x) := ⟨_, rfl⟩
                      have cv : wr.cell? ⟨b2, v, none⟩ = some (.string val) := by
                        rw [hB2.cells, hval]
                        obtain rfl | rfl : v = 0 ∨ v = 1 := by omega
                        · rfl
                        · rfl
                      have HVAL : Hid (val = _) := hval
                      have qv : (v : Int) < 2 := by omega
                      have HB1 : Hid (BlkIs _ b1 _ _) := hB1
                      have HB2 : Hid (BlkIs _ b2 _ _) := hB2
                      have HS : Hid (St3 _ _ _ _ _ _ _) := hS
                      clear hval hB1 hB2 hS
                      go_wp2_with fail
                      clear cv
                      obtain ⟨n, hn⟩ : ∃ n, n = h + m * (4 * N) + (2 * k + v) * N := ⟨_, rfl⟩
                      obtain ⟨xs, hxs⟩ : ∃ xs, xs = xs0 ++ inTo N ss m ++ partC N x m (2 * k + v) := ⟨_, rfl⟩
                      obtain ⟨o, c, E7, O7, G7, hnb⟩ : St3 w3 wr Eb gb n xs [b2, b1] := by rw [hn, hxs]; exact HS.out
                      have HNB : Hid (∀ b ∈ [b2, b1], _) := hnb
                      have HNN : Hid (n = _) := hn
                      have HXX : Hid (xs = _) := hxs
                      have hnN : n + N ≤ 10000000 := by rw [hn]; exact bndE (by omega) hN hh255 (by omega)
                      have b32r : BlkIs wr (w.heap.size + 1) (cfg N F) 32 := b32.gb G7 (by simp; exact ne32)
                      have HTr : Hid (Tab B wr) := tab_of T3.out G7 hB3 (by have := HEb.out; have := G1.size; omega)
                      have hBr : B ≤ wr.heap.size := Nat.le_trans hB3 G7.size
                      have hEr := E7.lt
                      clear HS hnb hn hxs
                      refine wp_region_K (fun w' => w'.cell? ⟨Eb, 0, none⟩ = some (.slice o n c) ∧ w'.cell? ⟨w.heap.size + 1, 0, none⟩ = some (.int .i64 N)) 15 (by kernel_rfl) ⟨E7.cells 0, b32r.cells 0⟩ (fun hHeld => ?_)
                      refine wpAnyK_take (i := 0) (v := ?v101) rfl (by kernel_rfl) (by kernel_rfl) (by kernel_rfl) (by kernel_rfl) (fun _ _ _ h => h) (Or.inl ⟨by rfl, ?hy101⟩) hHeld ?rest101
                      case hy101 => (intro w hSw; (try dsimp only at hSw); go_simp; try with_reducible rfl)
                      simp only [Act.put, List.setIfInBounds_toArray, List.set_cons_zero, List.set_cons_succ]
                      refine wpAnyK_take (i := 1) (v := ?v102) rfl (by kernel_rfl) (by kernel_rfl) (by kernel_rfl) (by kernel_rfl) (fun _ _ _ h => h) (Or.inl ⟨by rfl, ?hy102⟩) hHeld ?rest102
                      case hy102 => (intro w hSw; (try dsimp only at hSw); go_simp; try with_reducible rfl)
                      simp only [Act.put, List.setIfInBounds_toArray, List.set_cons_zero, List.set_cons_succ]
                      refine wpAnyK_take (i := 2) (v := ?v103) rfl (by kernel_rfl) (by kernel_rfl) (by kernel_rfl) (by kernel_rfl) (fun _ _ _ h => h) (Or.inl ⟨by rfl, ?hy103⟩) hHeld ?rest103
                      case hy103 => (intro w hSw; (try dsimp only at hSw); go_simp; try with_reducible rfl)
                      simp only [Act.put, List.setIfInBounds_toArray, List.set_cons_zero, List.set_cons_succ]
                      refine wpAnyK_take (i := 3) (v := ?v104) rfl (by kernel_rfl) (by kernel_rfl) (by kernel_rfl) (by kernel_rfl) (fun _ _ _ h => h) (Or.inl ⟨by rfl, ?hy104⟩) hHeld ?rest104
                      case hy104 => (intro w hSw; (try dsimp only at hSw); go_simp; try with_reducible rfl)
                      simp only [Act.put, List.setIfInBounds_toArray, List.set_cons_zero, List.set_cons_succ]
                      refine wpAnyK_take (i := 4) (v := ?v105) rfl (by kernel_rfl) (by kernel_rfl) (by kernel_rfl) (by kernel_rfl) (fun _ _ _ h => h) (Or.inl ⟨by rfl, ?hy105⟩) hHeld ?rest105
                      case hy105 => (intro w hSw; (try dsimp only at hSw); go_simp; try with_reducible rfl)
                      simp only [Act.put, List.setIfInBounds_toArray, List.set_cons_zero, List.set_cons_succ]
                      refine wpAnyK_take (i := 5) (v := ?v106) rfl (by kernel_rfl) (by kernel_rfl) (by kernel_rfl) (by kernel_rfl) (fun _ _ _ h => h) (Or.inl ⟨by rfl, ?hy106⟩) hHeld ?rest106
                      case hy106 => (intro w hSw; (try dsimp only at hSw); go_simp; try with_reducible rfl)
                      simp only [Act.put, List.setIfInBounds_toArray, List.set_cons_zero, List.set_cons_succ]
                      refine wpAnyK_take (i := 6) (v := ?v107) rfl (by kernel_rfl) (by kernel_rfl) (by kernel_rfl) (by kernel_rfl) (fun _ _ _ h => h) (Or.inl ⟨by rfl, ?hy107⟩) hHeld ?rest107
                      case hy107 => (intro w hSw; (try dsimp only at hSw); go_simp; try with_reducible rfl)
                      simp only [Act.put, List.setIfInBounds_toArray, List.set_cons_zero, List.set_cons_succ]
                      refine wpAnyK_take (i := 7) (v := ?v108) rfl (by kernel_rfl) (by kernel_rfl) (by kernel_rfl) (by kernel_rfl) (fun _ _ _ h => h) (Or.inl ⟨by rfl, ?hy108⟩) hHeld ?rest108
                      case hy108 => (intro w hSw; (try dsimp only at hSw); go_simp; try with_reducible rfl)
                      simp only [Act.put, List.setIfInBounds_toArray, List.set_cons_zero, List.set_cons_succ]
                      refine wpAnyK_take (i := 8) (v := ?v109) rfl (by kernel_rfl) (by kernel_rfl) (by kernel_rfl) (by kernel_rfl) (fun _ _ _ h => h) (Or.inl ⟨by rfl, ?hy109⟩) hHeld ?rest109
                      case hy109 => (intro w hSw; (try dsimp only at hSw); go_simp; try with_reducible rfl)
                      simp only [Act.put, List.setIfInBounds_toArray, List.set_cons_zero, List.set_cons_succ]
                      refine wpAnyK_take (i := 9) (v := ?v110) rfl (by kernel_rfl) (by kernel_rfl) (by kernel_rfl) (by kernel_rfl) (fun _ _ _ h => h) (Or.inl ⟨by rfl, ?hy110⟩) hHeld ?rest110
                      case hy110 => (intro w hSw; (try dsimp only at hSw); go_simp; try with_reducible rfl)
                      simp only [Act.put, List.setIfInBounds_toArray, List.set_cons_zero, List.set_cons_succ]
                      refine wpAnyK_one (i := 10) (by kernel_rfl) rfl (fun K hK => ?_)
                      go_wp2_with (go_at_call 16; refine (acsCast_any m kd val (by omega) (by omega) (B := B) _ (by exact tab_drew HTr.out) (by exact hBr)).mono ?_; rintro e w8 ⟨rfl, g8⟩)
                      have hHeld' : (fun w' : World => w'.cell? ⟨Eb, 0, none⟩ = some (.slice o n c) ∧ w'.cell? ⟨w.heap.size + 1, 0, none⟩ = some (.int .i64 N)) (w8) := ⟨(E7.gbn (gb_undrew g8)).cells 0, (b32r.gbn (gb_undrew g8)).cells 0⟩
                      refine hK.out _ _ hHeld' ?_
                      clear hK K hHeld
                      have hHeld := hHeld'
                      clear hHeld'
                      refine wpAnyK_one (i := 11) (by kernel_rfl) rfl (fun K hK => ?_)
                      go_wp2_with (fail)
                      have hHeld' : (fun w' : World => w'.cell? ⟨Eb, 0, none⟩ = some (.slice o n c) ∧ w'.cell? ⟨w.heap.size + 1, 0, none⟩ = some (.int .i64 N)) (w8.alloc (.cells (amsg m kd val).toArray 51)) := ⟨((E7.gbn (gb_undrew g8)).alloc _).cells 0, ((b32r.gbn (gb_undrew g8)).alloc _).cells 0⟩
                      refine hK.out _ _ hHeld' ?_
                      clear hK K hHeld
                      have hHeld := hHeld'
                      clear hHeld'
                      have hE9 : Eb + 1 ≤ (w8.alloc (.cells (amsg m kd val).toArray 51)).heap.size := by have a1 := (gb_undrew g8).size; simp; omega
                      have O9 : (w8.alloc (.cells (amsg m kd val).toArray 51)).ownsRow (Eb + 1) 53 19 (.slice o n c) n xs := (own_gbn O7 (gb_undrew g8)).alloc _
                      have HO9 : Hid (World.ownsRow _ _ _ _ _ _ _) := O9
                      clear O9
                      refine wpAnyK_one (i := 12) (by kernel_rfl) rfl (fun K hK => ?_)
                      go_wp2_with (go_at_call 18; refine (toAllA_sl (amsg m kd val) rfl (amsg_one _ _ _) w8.heap.size N (.slice o n c) n xs (Eb + 1) (w8.alloc (.cells (amsg m kd val).toArray 51)) (by exact hE9) (by exact HO9.out) (by exact hnN) (by exact heap_alloc_new w8 _)).mono ?_; rintro e w10 ⟨o10, c10, rfl, O10, g10, at10⟩)
                      have hoE : some Eb ≠ (Value.slice o n c).ownBlock := fun e => by have := (O7.lt Eb e.symm).1; omega
                      have ho32 : some (w.heap.size + 1) ≠ (Value.slice o n c).ownBlock := fun e => by have := (O7.lt _ e.symm).1; have := HEb.out; omega
                      have E10 : BlkIs w10 Eb #[.slice o n c, .pointer (some ⟨gb, 0, none⟩)] 38 := ((E7.gbn (gb_undrew g8)).alloc _).gb g10 hoE
                      have B10 : BlkIs w10 (w.heap.size + 1) (cfg N F) 32 := ((b32r.gbn (gb_undrew g8)).alloc _).gb g10 ho32
                      have hHeld' : (fun w' : World => w'.cell? ⟨Eb, 0, none⟩ = some (.slice o n c) ∧ w'.cell? ⟨w.heap.size + 1, 0, none⟩ = some (.int .i64 N)) (w10) := ⟨E10.cells 0, B10.cells 0⟩
                      refine hK.out _ _ hHeld' ?_
                      clear hK K hHeld
                      have hHeld := hHeld'
                      clear hHeld'
                      refine wpAnyK_one (i := 13) (by kernel_rfl) rfl (fun K hK => ?_)
                      go_wp2_with fail
                      refine hK.out _ _ hHeld ?_
                      clear hK K
                      refine wpAnyK_take (i := 14) (v := ?v111) rfl (by kernel_rfl) (by kernel_rfl) (by kernel_rfl) (by kernel_rfl) (fun _ _ _ h => h) (Or.inl ⟨by rfl, ?hy111⟩) hHeld ?rest111
                      case hy111 => (intro w hSw; (try dsimp only at hSw); go_simp; try with_reducible rfl)
                      simp only [Act.put, List.setIfInBounds_toArray, List.set_cons_zero, List.set_cons_succ]
                      have k10 : w10.cell? ⟨Eb, 0, none⟩ = some (.slice o n c) := by rw [E10.cells 0]; rfl
                      have f10 : w10.frozen? ⟨Eb, 0, none⟩ = false := frozen_of_row _ _ _ _ _ E10
                      refine wpAnyK_last (by kernel_rfl) rfl (by kernel_rfl) (fun K hK => ?_)
                      go_wp2_with fail
                      refine hK.out _ _ ?_
                      clear hK K
                      have a8 := (gb_undrew g8).size
                      have hb : ∀ b ∈ [b2, b1], b ≠ Eb → ∀ {cs : Array Value} {t : TypeId}, BlkIs wr b cs t → BlkIs (w10.setCell ⟨Eb, 0, none⟩ (.slice o10 (n + N) c10)) b cs t := fun b hm hne cs t hb => (((hb.gbn (gb_undrew g8)).alloc _).gb g10 (fun e => HNB.out b hm e.symm)).setOther _ hne
                      have HB1c : Hid (BlkIs (w10.setCell ⟨Eb, 0, none⟩ (.slice o10 (n + N) c10)) b1 #[.int .u8 2, .int .u8 3] 40) := hb b1 (by simp) HNE.out.2 HB1.out
                      have HB2c : Hid (BlkIs (w10.setCell ⟨Eb, 0, none⟩ (.slice o10 (n + N) c10)) b2 #[.string x, .string (notS x)] 9) := hb b2 (by simp) HNE.out.1 HB2.out
                      have HSc : Hid (St3 w3 (w10.setCell ⟨Eb, 0, none⟩ (.slice o10 (n + N) c10)) Eb gb (n + N) (xs ++ toAll (amsg m kd val) N) [b2, b1]) := by
                        refine ⟨o10, c10, E10.set (j := 0) _, O10.kept (gb_setCell w10 ⟨Eb, 0, none⟩ _) (.inr (fun e => by have := (O10.lt Eb e).1; omega)), ?_, ?_⟩
                        · refine gb_trans (gb_trans (gb_none (gb_none G7 (gb_undrew g8)) (World.grownBy_alloc _ _ _)) g10 (fun i e hi => ?_)) (gb_setCell w10 ⟨Eb, 0, none⟩ _) (fun i e _ => e)
                          have := (O7.lt i e).1; omega
                        · intro b hm e
                          rcases at10 with h | ⟨g, h, hg⟩
                          · exact HNB.out b hm (by rw [← h]; exact e)
                          · rw [h] at e
                            cases e
                            simp at hg
                            simp at hm
                            rcases hm with rfl | rfl
                            · have := HB2.out.lt; omega
                            · have := HB1.out.lt; omega
                      clear hb E10 O10 E7 O7 b32r B10 hHeld k10 f10
                      go_wp2_with fail
                      refine ⟨⟨v + 1, by omega, by go_num, HSc.out.to ?_ ?_, HB1c.out, HB2c.out⟩, by simp [intOf]; omega⟩
                      · rw [HNN.out, ← Nat.add_assoc (2 * k), Nat.add_mul (2 * k + v), Nat.one_mul]; omega
                      · rw [HXX.out, ← Nat.add_assoc (2 * k), partC, List.append_assoc]
                        congr 2
                        rw [HKD.out, HVAL.out, show (2 * k + v) / 2 = k by omega]
                        obtain rfl | rfl : v = 0 ∨ v = 1 := by omega
                        · simp
                        · simp
                    · obtain rfl : v = 2 := by omega
                      have HB1 : Hid (BlkIs _ b1 _ _) := hB1
                      have HS : Hid (St3 _ _ _ _ _ _ _) := hS
                      clear hB1 hB2 hS
                      go_wp2_with fail
                      exact ⟨⟨k + 1, by omega, by go_num, (HS.out.to (by rw [show 2 * k + 2 = 2 * (k + 1) by omega]) (by rw [show 2 * k + 2 = 2 * (k + 1) by omega])).fewer (by simp), HB1.out⟩, by simp [intOf]; omega⟩
                · obtain rfl : k = 2 := by omega
                  go_wp2_with fail
                  refine ⟨⟨m + 1, by omega, by go_num, (HS4.out.to ?_ ?_).fewer (by simp)⟩, by simp [intOf]; omega⟩
                  · rw [Nat.add_mul, Nat.one_mul]; omega
                  · rw [show 2 * 2 = 4 by rfl, partC_four, inTo, HX.out, List.append_assoc]
            · obtain rfl : m = len := by omega
              have HS2 : Hid (St3 _ _ _ _ _ _ _) := hS
              clear hS
              go_wp2_with fail
              go_ret
              obtain ⟨o, c, h1, h2, h3, h4⟩ := HS2.out
              have hEb := HEb.out
              have hlt' : ∀ b, b < w1.heap.size → b ≠ Eb := fun b hb => by omega
              have hk : ∀ {b : Nat} {cs : Array Value} {t : TypeId}, BlkIs w1 b cs t → BlkIs wr b cs t := fun hb => (hb.gbn g3).gb h3 (fun e => hlt' _ hb.lt (Option.some.inj e))
              have hmlt := (Array.getElem?_eq_some_iff.1 hmb).1
              refine ⟨Eb, gb, ab, mb, ebs, o, c, rfl, h1, ?_, hk hgb, hk hab, ?_, hle, fun t ht => hk (hbs t ht), gb_trans G3 h3 (fun i e hi => by have e1 : Eb = i := Option.some.inj e; have := G1.size; omega)⟩
              · have := own_base (B' := w.heap.size) h2 (by omega)
                rw [HXS.out, HOWN.out] at this
                exact this
              · rw [h3.block mb (Nat.lt_of_lt_of_le hmlt g3.size) (fun e => hlt' _ hmlt (Option.some.inj e)), g3.block mb hmlt (by simp)]; exact hmb
end Go.Proofs.YbulkxuDoor
