import Derived.Test.YbulkxuDoorE
import Derived.Test.YbulkxuDoorStrs
import Derived.Lib.Builder
import Derived.WalkLawsBesides
namespace Go.Proofs.YbulkxuDoor
open Go.RowKit Go.MapKept
set_option linter.all false

theorem eqn33 (a : Addr) (w : World) : (binOp .eql 33 (.pointer (some a)) (.pointer none)).run Ybad.prog w = .ok (.bool false) w := by kernel_rfl
theorem eqn36 (a : Addr) (w : World) : (binOp .eql 36 (.pointer (some a)) (.pointer none)).run Ybad.prog w = .ok (.bool false) w := by kernel_rfl
theorem eqn60 (a : Addr) (w : World) : (binOp .eql 60 (.pointer (some a)) (.pointer none)).run Ybad.prog w = .ok (.bool false) w := by kernel_rfl
theorem neq60 (a : Addr) (w : World) : (binOp .neq 60 (.pointer (some a)) (.pointer (some a))).run Ybad.prog w = .ok (.bool false) w := by
  obtain ⟨j, hj⟩ : ∃ j, Ybad.prog.info? 63 = some j := by
    have : (Ybad.prog.info? 63).isSome = true := by kernel_rfl
    exact Option.isSome_iff_exists.1 this
  exact Lib.run_neq_ptr_same w a Ybad.underlying60 hj
theorem agS_eq (t : Int) : (⟨#[97, 99, 115, 47, 97, 98, 97, 47]⟩ : ByteArray) ++ dec t = agS t := by
  unfold agS acsT
  apply ByteArray.ext
  apply Array.ext'
  simp
theorem lenmap57 {w : World} {b : Nat} {es : Array MapEntry} {clock : Nat} (hb : w.heap[b]? = some (.map es clock)) (ty : TypeId) : (Builtin.len_ #[57] ty #[.map (some b)]).run Ybad.prog w = .ok (.int .i64 es.size) w := by
  simp [Builtin.len_, run_underlying Ybad.underlying57, MapKept.run_getObj_map hb, goInt]
theorem ents_len (ebs : List Nat) : (ents ebs).length = ebs.length := by simp [ents]
theorem ents_mem (ebs : List Nat) {t : Nat} (h : t < ebs.length) : ∃ x ∈ (ents ebs).toArray.toList, x.key = .string (agS t) := by
  refine ⟨⟨.string (agS t), .pointer (some ⟨ebs.getD t 0, 0, none⟩), t⟩, ?_, rfl⟩
  simp only [ents, List.mem_map, List.mem_range]
  exact ⟨t, h, rfl⟩
theorem ents_one (ebs : List Nat) {t : Nat} (h : t < ebs.length) (hl : ebs.length ≤ 255) : ∀ x ∈ (ents ebs).toArray.toList, x.key = .string (agS t) → x.val = .pointer (some ⟨ebs.getD t 0, 0, none⟩) := by
  intro x hx hk
  obtain ⟨s, hs, h1, h2⟩ := ents_key ebs x hx
  rw [h1] at hk
  have : s = t := agS_inj (by omega) (by omega) (by simpa using hk)
  rw [h2, this]
theorem ptrs_at (ebs : List Nat) (N t : Nat) (h : t < ebs.length) : (ptrs ebs N).toArray[t]? = some (.pointer (some ⟨ebs.getD t 0, 0, none⟩)) := by
  simp [ptrs, List.getElem?_append_left, h, List.getD]

set_option maxRecDepth 100000 in
set_option maxHeartbeats 4000000 in
theorem agr_pos (ib io n cap N F id b c : Nat) (ss : List ByteArray) (w : World) (hT : Tab w.heap.size w) (hn0 : 0 < n) (hn : n ≤ 256) (hcap : n ≤ cap) (hN : N ≤ 255) (hb : b ≤ 255) (hc : c ≤ 255) (hF : b % (N + 1) = F) (hid : c % n = id)
    (hib : ib < w.heap.size) (hin : ∀ i, i < n → w.cell? ⟨ib, io + i, none⟩ = some (.string (ss.getD i ByteArray.empty))) (hsz : ∀ i, i < n → (ss.getD i ByteArray.empty).size ≤ 140737488355328) :
    Calls Ybad.prog 4 #[.slice (some ⟨ib, io, none⟩) n cap, .int .u8 N, .int .u8 b, .int .u8 c] w fun e w' => e = .returned (.bool true) ∧ Below w.heap.size w w' := by
  have hFN : F ≤ N := by have := Nat.mod_lt b (show 0 < N + 1 by omega); omega
  have hidn : id < n := by have := Nat.mod_lt c hn0; omega
  have e1 : (b : Int).tmod ((N : Int) + 1) = (F : Int) := by rw [← hF]; exact (Int.ofNat_tmod b (N + 1)).symm
  have e2 : (c : Int).tmod (n : Int) = (id : Int) := by rw [← hid]; exact (Int.ofNat_tmod c n).symm
  have hn1 : ¬ (n : Int) = 0 := by omega
  have hn2 : ((n : Int) == 0) = false := beq_eq_false_iff_ne.2 hn1
  have HT : Hid (Tab w.heap.size w) := hT
  have HIN : Hid (∀ i, i < n → _) := hin
  have HSZ : Hid (∀ i, i < n → _) := hsz
  have q33 := eqn33
  have q36 := eqn36
  clear hT hin hsz hF hid
  go_enter Ybad.func4, Ybad.ntmps4
  go_wp2_with (first
    | refine wpList_store_new (w := w) rfl 27 (.tmp 12) (.tmp 38) rfl #[.slice (some ⟨ib, io, none⟩) n cap, .string ⟨#[]⟩] _ _ (by rfl) (by rfl) (by rfl) (by rfl) (by kernel_rfl) (by simp [Value.oneCell']) ?_)
  have G0 := World.grownBy_alloc w (.cells #[.slice (some ⟨ib, io, none⟩) n cap, .string ⟨#[]⟩] 27) none
  refine (equivocator_any N (N - F) F id n cap ib io ss _ w.heap.size (by simp) (HT.out.none G0 (Nat.le_refl _)) hN hFN rfl hidn hn hcap (by simp; omega) (fun i hi => (G0.cell_far _ hib (by simp)).trans (HIN.out i hi)) HSZ.out).mono ?_
  rintro e w2 ⟨Eb, gb, ab, mb, ebs, o, c', rfl, hE, hO, hG, hA, hM, hl, hbs, g2⟩
  have G2 := gb_none G0 g2
  have cE := hE.cells
  have cG := hG.cells
  have hlm := lenmap57 hM
  rw [show ((ents ebs).toArray.size : Int) = (N : Int) by simp [ents_len, hl]] at hlm
  have HG : Hid (BlkIs w2 gb _ _) := hG
  have HA : Hid (BlkIs w2 ab _ _) := hA
  have HM : Hid (w2.heap[mb]? = _) := hM
  have HB : Hid (∀ t, t < N → _) := hbs
  have HL : Hid (ebs.length = N) := hl
  clear hE hO hG hA hM hbs hl g2
  go_wp2_with fail
  clear cE cG hlm
  go_loopw [15] (fun iv wr => ∃ t : Nat, t ≤ N ∧ iv = .int .i64 t ∧ w2.grownBy wr none) (fun iv _ => N - (intOf iv).toNat)
  case atStart => exact ⟨0, Nat.zero_le _, rfl, gb_refl _ _⟩
  case round =>
    obtain ⟨t, ht, rfl, hgr⟩ := hrel
    have HGR : Hid (w2.grownBy wr none) := hgr
    clear hgr
    by_cases hlt : t < N
    · obtain ⟨eb, heb⟩ : ∃ eb, eb = ebs.getD t 0 := ⟨_, rfl⟩
      have HEB : Hid (eb = _) := heb
      clear heb
      have cG := (HG.out.gbn HGR.out).cells
      have ca : wr.cell? ⟨ab, t, none⟩ = some (.pointer (some ⟨eb, 0, none⟩)) := by
        rw [(HA.out.gbn HGR.out).cells, HEB.out]; exact ptrs_at ebs N t (by rw [HL.out]; exact hlt)
      have q60 := eqn60
      have qn60 := neq60
      have q1 : (t : Int) < (N : Int) := by omega
      have hag := agS_eq t
      have sj := dec_size t (by omega) (by omega)
      go_wp2_with (go_at_call 9; refine (itoa_any t (by omega) (by omega) (B := w.heap.size) _ (by exact HT.out.none (gb_none G2 HGR.out) (Nat.le_refl _))).mono ?_; rintro e w3 ⟨rfl, g3⟩; have G3 : Hid (w2.grownBy w3 none) := gb_none HGR.out g3; have cG3 := (HG.out.gbn G3.out).cells; have ce3 := ((HB.out t hlt).gbn G3.out).cells; rw [← HEB.out] at ce3; unfold eqc at ce3; have hlk : (Instr.lookup 57 (.map (some mb)) (.string (agS t)) false).run Ybad.prog w3 = .ok (.pointer (some ⟨eb, 0, none⟩)) w3 := (by rw [HEB.out]; exact run_lookup_hit Ybad.underlying57 Ybad.underlying9 ((G3.out.block mb (Array.getElem?_eq_some_iff.1 HM.out).1 (by simp)).trans HM.out) (ents_isKey ebs) _ (ents_mem ebs (by rw [HL.out]; exact hlt)) (ents_one ebs (by rw [HL.out]; exact hlt) (by rw [HL.out]; exact hN))))
      exact ⟨⟨t + 1, by omega, by go_num, G3.out⟩, by simp [intOf]; omega⟩
    · go_wp2_with fail
      go_ret
      exact ⟨rfl, gb_below (gb_none G2 HGR.out) (Nat.le_refl _) (fun k e => by cases e)⟩

theorem agr_walk (a0 : Option Addr) (len0 cap0 : Nat) (ss : List ByteArray) (x1 x2 x3 : Int) (w : World) (hT : Tab w.heap.size w) (h0 : IsStrs w a0 len0 cap0 ss)
    (a1 : 0 ≤ x1) (a2 : x1 ≤ 255) (b1 : 0 ≤ x2) (b2 : x2 ≤ 255) (c1 : 0 ≤ x3) (c2 : x3 ≤ 255) :
    Calls Ybad.prog 4 #[.slice a0 len0 cap0, .int .u8 x1, .int .u8 x2, .int .u8 x3] w fun e w' => e = .returned (.bool true) ∧ Below w.heap.size w w' := by
  by_cases hbig : 256 < len0
  · have h1' : (256 : Int) < (len0 : Int) := by omega
    go_enter Ybad.func4, Ybad.ntmps4
    go_wp2_with fail
    go_ret
    exact ⟨rfl, Below.refl _ _⟩
  by_cases hz : len0 = 0
  · subst hz
    go_enter Ybad.func4, Ybad.ntmps4
    go_wp2_with fail
    go_ret
    exact ⟨rfl, Below.refl _ _⟩
  obtain ⟨N, rfl⟩ := Int.eq_ofNat_of_zero_le a1
  obtain ⟨b, rfl⟩ := Int.eq_ofNat_of_zero_le b1
  obtain ⟨c, rfl⟩ := Int.eq_ofNat_of_zero_le c1
  rcases h0 with ⟨_, h, _⟩ | ⟨x, rfl, hl, hcell, hsz⟩
  · exact absurd h hz
  · obtain ⟨ib, io, rfl, hc2⟩ := strs_at hcell (by omega)
    exact agr_pos ib io len0 cap0 N _ _ b c ss w hT (by omega) (by omega) hl (by omega) (by omega) (by omega) rfl rfl (World.block_lt_of_cell? _ _ (hc2 0 (by omega))) hc2 hsz
end Go.Proofs.YbulkxuDoor
