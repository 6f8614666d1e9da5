import Derived.Test.YbulkxuDoorA1
import Derived.ChangeMaps4
import Derived.Deep.OwnRows
import Derived.Deep.RegionHeld3
import Derived.Deep.DeepCutAuto
namespace Go.Proofs.YbulkxuDoor
open Go.RowKit Go.MapKept
open Go.ChangeMaps (setBlock)
set_option linter.all false

/-- A new key stored. -/
theorem run_update_new {P : Program} {w : World} {t kt et : TypeId} (ht : P.underlying t = some (.map kt et)) (hk : P.underlying kt = some .string) {b : Nat} {es : Array MapEntry} {clock : Nat} (hb : w.heap[b]? = some (.map es clock))
    (hks : ∀ x ∈ es.toList, IsKey .string x.key) {s : ByteArray} (v : Value) (hne : ∀ x ∈ es.toList, x.key ≠ .string s) :
    (Instr.mapUpdate t (.map (some b)) (.string s) v).run P w = .ok () (setBlock w b (.map (es.push ⟨.string s, v, clock⟩) (clock + 1))) := by
  have hkey : IsKey .string (.string s) := trivial
  rcases findNow_spec hkey es.toList 0 hks with ⟨h1, _⟩ | ⟨j, e0, _, h2, h3⟩
  · simp [Instr.mapUpdate, run_underlying ht, MapKept.run_getObj_map hb, run_checkKey hk hkey, run_findKey hk h1, MapKept.run_setObj_map _ hb, Result.andThen, setBlock]
  · exact absurd h3 (hne e0 (List.mem_of_getElem? h2))

/-- A key that is there, looked up. -/
theorem run_lookup_hit {P : Program} {w : World} {t kt et : TypeId} (ht : P.underlying t = some (.map kt et)) (hk : P.underlying kt = some .string) {b : Nat} {es : Array MapEntry} {clock : Nat} (hb : w.heap[b]? = some (.map es clock))
    (hks : ∀ x ∈ es.toList, IsKey .string x.key) {s : ByteArray} (v : Value) (hin : ∃ x ∈ es.toList, x.key = .string s) (hone : ∀ x ∈ es.toList, x.key = .string s → x.val = v) :
    (Instr.lookup t (.map (some b)) (.string s) false).run P w = .ok v w := by
  have hkey : IsKey .string (.string s) := trivial
  rcases findNow_spec hkey es.toList 0 hks with ⟨_, h2⟩ | ⟨j, e0, h1, h2, h3⟩
  · obtain ⟨x, hx, hxk⟩ := hin
    exact absurd hxk (h2 x hx)
  · have hv := hone e0 (List.mem_of_getElem? h2) h3
    rw [hv] at h1
    simp [Instr.lookup, run_underlying ht, MapKept.run_getObj_map hb, run_checkKey hk hkey, run_findKey hk h1, Result.andThen]

/-- Decimal texts tell numbers apart. -/
def valOf (l : List UInt8) : Nat := l.foldl (fun a c => 10 * a + (c.toNat - 48)) 0
theorem val_dec : ∀ a : Fin 300, valOf (Lib.itoa ((a.1 : Nat) : Int)) = a.1 := by decide +kernel
theorem dec_inj {a b : Nat} (ha : a < 300) (hb : b < 300) (h : dec a = dec b) : a = b := by
  have e : Lib.itoa (a : Int) = Lib.itoa (b : Int) := by
    have := congrArg (fun x : ByteArray => x.data.toList) h
    simpa [dec] using this
  have h1 := val_dec ⟨a, ha⟩
  have h2 := val_dec ⟨b, hb⟩
  simp only at h1 h2
  rw [← h1, ← h2, e]
theorem agS_inj {a b : Nat} (ha : a < 300) (hb : b < 300) (h : agS a = agS b) : a = b := by
  refine dec_inj ha hb ?_
  unfold agS at h
  have := congrArg (fun x : ByteArray => x.data.toList) h
  simp at this
  apply ByteArray.ext
  exact Array.ext' (by simpa using this)

/-- The map's entries once the equivocators in blocks 'ebs' are in. -/
def ents (ebs : List Nat) : List MapEntry := (List.range ebs.length).map fun t : Nat => ⟨.string (agS t), .pointer (some ⟨ebs.getD t 0, 0, none⟩), t⟩
theorem ents_snoc (ebs : List Nat) (b : Nat) : ents (ebs ++ [b]) = ents ebs ++ [⟨.string (agS ebs.length), .pointer (some ⟨b, 0, none⟩), ebs.length⟩] := by
  unfold ents
  rw [List.length_append, List.length_singleton, List.range_succ, List.map_append]
  congr 1
  · apply List.map_congr_left
    intro t ht
    have : t < ebs.length := by simpa using ht
    simp [List.getD, List.getElem?_append_left this]
  · simp [List.getD]
theorem ents_key (ebs : List Nat) : ∀ x ∈ ents ebs, ∃ t : Nat, t < ebs.length ∧ x.key = .string (agS t) ∧ x.val = .pointer (some ⟨ebs.getD t 0, 0, none⟩) := by
  intro x hx
  obtain ⟨t, ht, rfl⟩ := List.mem_map.1 hx
  exact ⟨t, by simpa using ht, rfl, rfl⟩
theorem ents_isKey (ebs : List Nat) : ∀ x ∈ ents ebs, IsKey .string x.key := by
  intro x hx
  obtain ⟨t, _, h, _⟩ := ents_key ebs x hx
  rw [h]; trivial
theorem ents_new (ebs : List Nat) (h : ebs.length < 300) : ∀ x ∈ ents ebs, x.key ≠ .string (agS ebs.length) := by
  intro x hx e
  obtain ⟨t, ht, h1, _⟩ := ents_key ebs x hx
  rw [h1] at e
  have := agS_inj (by omega) h (show agS t = agS ebs.length by simpa using e)
  omega

/-- The array of pointers, the first of them laid. -/
def ptrs (ebs : List Nat) (N : Nat) : List Value := ebs.map (fun b => Value.pointer (some ⟨b, 0, none⟩)) ++ List.replicate (N - ebs.length) (.pointer none)
theorem ptrs_set (ebs : List Nat) (N b : Nat) (h : ebs.length < N) : (ptrs ebs N).set ebs.length (.pointer (some ⟨b, 0, none⟩)) = ptrs (ebs ++ [b]) N := by
  unfold ptrs
  rw [List.set_append_right _ _ (by simp)]
  simp only [List.length_map, Nat.sub_self, List.map_append, List.map_cons, List.map_nil, List.length_append, List.length_singleton, List.append_assoc]
  congr 1
  rw [show N - ebs.length = (N - (ebs.length + 1)) + 1 by omega, List.replicate_succ]
  rfl
theorem ptrs_length (ebs : List Nat) (N : Nat) (h : ebs.length ≤ N) : (ptrs ebs N).length = N := by simp [ptrs]; omega


theorem Ybad.info60 : (Ybad.prog.info? 60).map (fun i => (i.zero, i.size, i.bytes)) = some (some (.pointer none), 1, 8) := by kernel_rfl

theorem run_makeMap_hint (N : Nat) (hN : N ≤ 255) (w : World) : (Instr.makeMap 57 (some (.int .i64 N))).run Ybad.prog w = .ok (.map (some w.heap.size)) (w.alloc (.map #[] 0)) := by
  have h : (asInt (.int .i64 N)).run Ybad.prog w = .ok (N : Int) w := by simp [asInt, asIntOf]
  simp [Instr.makeMap, run_underlying Ybad.underlying57, h]
theorem made_ptrs (N : Nat) : madeCells #[Value.pointer none] N = (ptrs [] N).toArray := by
  apply Array.ext
  · simp [madeCells, ptrs]
  · intro i h1 h2
    simp [madeCells, ptrs, Nat.mod_one]

/-- What the first part of 'newABAEquivocators' has made. -/
def Made (w wc : World) (gb ab mb N : Nat) (ebs : List Nat) : Prop :=
  BlkIs wc gb #[.slice (some ⟨ab, 0, none⟩) N N, .map (some mb)] 59 ∧ BlkIs wc ab (ptrs ebs N).toArray 60 ∧ wc.heap[mb]? = some (.map (ents ebs).toArray ebs.length) ∧ w.heap.size ≤ gb ∧ w.heap.size ≤ ab ∧ w.heap.size ≤ mb ∧ gb ≠ ab ∧ gb ≠ mb ∧ ab ≠ mb ∧ w.grownBy wc none

theorem BlkIs.newAt {w : World} {b : Nat} (h : w.heap.size = b) (cs : Array Value) (t : TypeId) : BlkIs (w.alloc (.cells cs t)) b cs t := by subst h; exact BlkIs.new w cs t
theorem made1 (v : World) (H N : Nat) (hH : v.heap.size = H) : Made v (((v.alloc (.cells (madeCells #[.pointer none] N) 60)).alloc (.map #[] 0)).alloc (.cells #[.slice (some ⟨H, 0, none⟩) N N, .map (some (H + 1))] 59)).drew (H + 1 + 1) H (H + 1) N [] := by
  subst hH
  refine ⟨?_, ?_, ?_, by omega, by omega, by omega, by omega, by omega, by omega, gb_none (gb_none (gb_none (World.grownBy_alloc _ _ _) (World.grownBy_alloc _ _ _)) (World.grownBy_alloc _ _ _)) (gb_drew _ _)⟩
  · exact BlkIs.newAt (by simp) _ _
  · rw [made_ptrs]; exact ((BlkIs.new v _ _).alloc _).alloc _
  · show (((v.alloc _).alloc _).alloc _).heap[v.heap.size + 1]? = _
    rw [Below.heap_alloc _ _ _ (by simp)]
    exact heap_alloc2_new _ _ _
theorem made2 (v : World) (H N : Nat) (hH : v.heap.size = H) : Made v (((v.alloc (.map #[] 0)).alloc (.cells (madeCells #[.pointer none] N) 60)).alloc (.cells #[.slice (some ⟨H + 1, 0, none⟩) N N, .map (some H)] 59)).drew (H + 1 + 1) (H + 1) H N [] := by
  subst hH
  refine ⟨?_, ?_, ?_, by omega, by omega, by omega, by omega, by omega, by omega, gb_none (gb_none (gb_none (World.grownBy_alloc _ _ _) (World.grownBy_alloc _ _ _)) (World.grownBy_alloc _ _ _)) (gb_drew _ _)⟩
  · exact BlkIs.newAt (by simp) _ _
  · rw [made_ptrs]; exact (BlkIs.newAt (by simp) _ _).alloc _
  · show (((v.alloc _).alloc _).alloc _).heap[v.heap.size]? = _
    rw [Below.heap_alloc _ _ _ (by simp; omega), Below.heap_alloc _ _ _ (by simp)]
    exact heap_alloc_new _ _

/-- A store into a cell that is there. -/
theorem run_store_there {P : Program} (w : World) (a : Addr) (v : Value) (h1 : v.oneCell' = true) (hs : (w.cell? a).isSome = true) (hf : w.frozen? a = false) : (store a v).run P w = .ok () (w.setCell a v) := by
  obtain ⟨u, hu⟩ := Option.isSome_iff_exists.1 hs
  rw [run_store P w a v _ h1]
  simp [hu, hf]
/-- Whatever a cell holds. -/
def cellAt (w : World) (b j : Nat) : Value := (w.cell? ⟨b, j, none⟩).getD undef
theorem cellAt_of {w : World} {b j : Nat} (h : (w.cell? ⟨b, j, none⟩).isSome = true) : w.cell? ⟨b, j, none⟩ = some (cellAt w b j) := by
  obtain ⟨u, hu⟩ := Option.isSome_iff_exists.1 h
  simp [cellAt, hu]

/-- The fields of agreement t's equivocator. -/
def eqc (t : Nat) (N : Nat) (F id : Int) : Array Value := #[.string (agS t), .int .i64 N, .int .i64 (N - F), .int .i64 id, .int .i64 1, .bool true, .int .i64 0]
def cfg (N : Nat) (F : Int) : Array Value := #[.int .i64 N, .int .i64 F, .int .i64 0, .int .i64 0, .int .u64 0, .slice none 0 0]

theorem heap_setBlock_ne {w : World} {b k : Nat} {o : Obj} (h : k ≠ b) : (setBlock w b o).heap[k]? = w.heap[k]? := by
  simp only [setBlock, Array.getElem?_setIfInBounds]
  rw [if_neg (fun e => h e.symm)]
theorem heap_setBlock_eq {w : World} {b : Nat} {o : Obj} (h : b < w.heap.size) : (setBlock w b o).heap[b]? = some o := by
  simp only [setBlock, Array.getElem?_setIfInBounds]
  simp [h]
theorem gb_setBlock (w : World) (b : Nat) (o : Obj) : w.grownBy (setBlock w b o) (some b) :=
  ⟨rfl, rfl, rfl, by simp [setBlock], fun k _ hr => heap_setBlock_ne (fun e => hr (by rw [e]))⟩
theorem BlkIs.setBlk {w : World} {b c : Nat} {cs : Array Value} {t : TypeId} {o : Obj} (h : BlkIs w b cs t) (ne : b ≠ c) : BlkIs (setBlock w.drew c o) b cs t := (heap_setBlock_ne ne).trans h
theorem gb_undrew' {w w' : World} {r : Option Nat} (h : w.drew.grownBy w' r) : w.grownBy w' r := gb_undrew h
theorem keep5 {W : World} {gb ab mb cb ob N j : Nat} {F : Int} {arr : Array Value} (hgb : BlkIs W gb #[.slice (some ⟨ab, 0, none⟩) N N, .map (some mb)] 59) (hcf : BlkIs W cb (cfg N F) 32) (how : BlkIs W ob (List.replicate N (Value.int .i64 1)).toArray 3) (hab : BlkIs W ab arr 60) (hs : arr.size = N) (hlt : j < N) :
    (∀ o, W.cell? ⟨gb, o, none⟩ = (#[.slice (some ⟨ab, 0, none⟩) N N, .map (some mb)] : Array Value)[o]?) ∧ (∀ o, W.cell? ⟨cb, o, none⟩ = (#[.int .i64 N, .int .i64 F, .int .i64 0, .int .i64 0, .int .u64 0, .slice none 0 0] : Array Value)[o]?) ∧ W.cell? ⟨ob, j, none⟩ = some (.int .i64 1) ∧ W.cell? ⟨ab, j, none⟩ = some (cellAt W ab j) ∧ W.frozen? ⟨ab, j, none⟩ = false :=
  ⟨hgb.cells, hcf.cells, by rw [how.cells j]; simp [hlt], cellAt_of (by rw [hab.cells j]; simp; omega), frozen_of_row _ _ _ _ _ hab⟩
theorem BlkIs.set {w : World} {b j : Nat} {cs : Array Value} {t : TypeId} (h : BlkIs w b cs t) (v : Value) : BlkIs (w.setCell ⟨b, j, none⟩ v) b (cs.setIfInBounds j v) t := heap_setCell_same w b j cs t v h
theorem BlkIs.setOther {w : World} {b c j : Nat} {cs : Array Value} {t : TypeId} (h : BlkIs w b cs t) (v : Value) (ne : b ≠ c) : BlkIs (w.setCell ⟨c, j, none⟩ v) b cs t := h.gb (gb_setCell w ⟨c, j, none⟩ v) (by simpa using ne)

set_option maxRecDepth 100000 in
set_option maxHeartbeats 2000000 in
theorem newEqs_any (N : Nat) (F : Int) (id : Int) (sb ob : Nat) (w : World) (hN : N ≤ 255) (h0 : 0 ≤ F) (h1 : F ≤ N)
    (hs : BlkIs w sb ((List.range N).map (fun t : Nat => Value.string (agS t))).toArray 9) (ho : BlkIs w ob (List.replicate N (Value.int .i64 1)).toArray 3) :
    Calls Ybad.prog 14 #[.agg #[.int .i64 N, .int .i64 F, .int .i64 0, .int .i64 0, .int .u64 0, .slice none 0 0], .slice (some ⟨sb, 0, none⟩) N N, .int .i64 id, .slice (some ⟨ob, 0, none⟩) N N, .bool true] w fun e w' =>
      ∃ gb ab mb ebs, e = .returned (.pointer (some ⟨gb, 0, none⟩)) ∧ BlkIs w' gb #[.slice (some ⟨ab, 0, none⟩) N N, .map (some mb)] 59 ∧ BlkIs w' ab (ptrs ebs N).toArray 60 ∧ w'.heap[mb]? = some (.map (ents ebs).toArray N) ∧ ebs.length = N ∧
        (∀ t, t < N → BlkIs w' (ebs.getD t 0) #[.string (agS t), .int .i64 N, .int .i64 (N - F), .int .i64 id, .int .i64 1, .bool true, .int .i64 0] 63) ∧ w.heap.size ≤ gb ∧ w.grownBy w' none := by
  have hmk := fun wx => run_make_row' (P := Ybad.prog) 56 60 (.pointer none) 8 Ybad.underlying56 Ybad.info60 rfl .i64 .i64 N (by omega) (by omega) wx
  have hmm := run_makeMap_hint N hN
  have HS : Hid (BlkIs _ _ _ _) := hs
  have HOn : Hid (BlkIs _ _ _ _) := ho
  clear hs ho
  go_enter Ybad.func14, Ybad.ntmps14
  go_wp2_with fail
  go_cut [11] (fun ev wc => ∃ gb ab mb, ev = .pointer (some ⟨gb, 0, none⟩) ∧ Made (w.alloc (.cells #[.int .i64 N, .int .i64 F, .int .i64 0, .int .i64 0, .int .u64 0, .slice none 0 0] 32)) wc gb ab mb N [])
  case first =>
    go_region_with (fail)
    all_goals (try go_wp2_with fail)
    all_goals go_meet
    · case rel => exact ⟨_, _, _, rfl, made1 _ _ N (by simp)⟩
    · case rel => exact ⟨_, _, _, rfl, made2 _ _ N (by simp)⟩
  case rest =>
    obtain ⟨gb, ab, mb, rfl, hM⟩ := hcut
    have HM : Hid (Made _ _ _ _ _ _ _) := hM
    clear hM
    go_wp2_with fail
    go_loopw [24] (fun iv wr => ∃ ebs : List Nat, ebs.length ≤ N ∧ iv = .int .i64 ebs.length ∧ Made (w.alloc (.cells (cfg N F) 32)) wr gb ab mb N ebs ∧ ∀ t, t < ebs.length → BlkIs wr (ebs.getD t 0) (eqc t N F id) 63 ∧ ebs.getD t 0 ≠ ab ∧ ebs.getD t 0 ≠ mb) (fun iv _ => N - (intOf iv).toNat)
    case atStart => exact ⟨[], by simp, rfl, HM.out, fun t ht => by simp at ht⟩
    case round =>
      obtain ⟨ebs, hle, rfl, hM, hbs⟩ := hrel
      clear HM
      obtain ⟨hgb, hab, hmb, n1, n2, n3, n4, n5, n6, hgr⟩ := hM
      obtain ⟨j, hj⟩ : ∃ j, j = ebs.length := ⟨_, rfl⟩
      rw [← hj]
      have HJ : Hid (j = ebs.length) := hj
      have G0 := gb_none (World.grownBy_alloc w (.cells (cfg N F) 32) none) hgr
      have hsw := HS.out.gbn G0
      have how := HOn.out.gbn G0
      have hcf : BlkIs wr w.heap.size (cfg N F) 32 := (BlkIs.new w _ _).gbn hgr
      have HMB : Hid (_ = _) := hmb
      have HBS : Hid (∀ t, t < ebs.length → _) := hbs
      have HJN : Hid (ebs.length ≤ N) := hle
      by_cases hlt : j < N
      · have c4 : wr.cell? ⟨sb, j, none⟩ = some (.string (agS j)) := by rw [hsw.cells j]; simp [hlt]
        have q0 : (0 : Int) ≤ (j : Int) := Int.natCast_nonneg _
        have q1 : (j : Int) < (N : Int) := by omega
        clear hj hmb hbs hle
        have lob := HOn.out.lt
        have ne1 : w.heap.size ≠ ab := by simp at n2; omega
        have ne2 : ob ≠ ab := by simp at n2; omega
        go_wp2_with fail
        go_region_held3 (fun w' => (∀ o, w'.cell? ⟨gb, o, none⟩ = (#[.slice (some ⟨ab, 0, none⟩) N N, .map (some mb)] : Array Value)[o]?) ∧ (∀ o, w'.cell? ⟨w.heap.size, o, none⟩ = (#[.int .i64 N, .int .i64 F, .int .i64 0, .int .i64 0, .int .u64 0, .slice none 0 0] : Array Value)[o]?) ∧ w'.cell? ⟨ob, j, none⟩ = some (.int .i64 1) ∧ w'.cell? ⟨ab, j, none⟩ = some (cellAt w' ab j) ∧ w'.frozen? ⟨ab, j, none⟩ = false)
          (first | exact keep5 hgb hcf how hab (by simp [ptrs_length _ _ HJN.out]) hlt | exact keep5 (hgb.gbn (gb_undrew g1)) (hcf.gbn (gb_undrew g1)) (how.gbn (gb_undrew g1)) (hab.gbn (gb_undrew g1)) (by simp [ptrs_length _ _ HJN.out]) hlt | exact keep5 ((hgb.gbn (gb_undrew g1)).setOther _ n4) ((hcf.gbn (gb_undrew g1)).setOther _ ne1) ((how.gbn (gb_undrew g1)).setOther _ ne2) ((hab.gbn (gb_undrew g1)).set _) (by simp [ptrs_length _ _ HJN.out]) hlt)
          (first | (go_at_call 28; refine (newEq_any N F _ _ _ _ rfl rfl rfl rfl (agS j) id 1 true _ h0 h1 (by omega)).mono ?_; rintro e w1 ⟨b, rfl, hb, E1, g1⟩))
        clear hsw how hcf c4
        have lgb := hgb.lt
        have lab := hab.lt
        have lmb := (Array.getElem?_eq_some_iff.1 HMB.out).1
        have h1gb := (hgb.gbn (gb_undrew g1)).setOther (c := ab) (j := j) (.pointer (some ⟨b, 0, none⟩)) n4
        have h1ab := (hab.gbn (gb_undrew g1)).set (j := j) (.pointer (some ⟨b, 0, none⟩))
        rw [List.setIfInBounds_toArray, HJ.out, ptrs_set ebs N b (by rw [← HJ.out]; exact hlt), ← HJ.out] at h1ab
        have hbb : wr.heap.size ≤ b := hb
        have h1mb : (w1.setCell ⟨ab, j, none⟩ (.pointer (some ⟨b, 0, none⟩))).heap[mb]? = some (.map (ents ebs).toArray ebs.length) := by
          rw [heap_setCell_other _ _ _ _ (by simpa using fun e => n6 e.symm), (gb_undrew g1).block mb lmb (by simp)]
          exact HMB.out
        have hup := run_update_new (P := Ybad.prog) (w := (w1.setCell ⟨ab, j, none⟩ (.pointer (some ⟨b, 0, none⟩))).drew) Ybad.underlying57 Ybad.underlying9 h1mb (by simpa using ents_isKey ebs) (s := agS j) (.pointer (some ⟨b, 0, none⟩)) (by
          rw [HJ.out]; simpa using ents_new ebs (by rw [← HJ.out]; omega))
        have E5 := E1.setOther (c := ab) (j := j) (.pointer (some ⟨b, 0, none⟩)) (by omega)
        have cg5 := h1gb.cells
        have ca5 := h1ab.cells j
        have e5 : (ptrs (ebs ++ [b]) N).toArray[j]? = some (.pointer (some ⟨b, 0, none⟩)) := by
          rw [HJ.out]; simp [ptrs]
        rw [e5] at ca5
        clear e5
        go_wp2_with fail
        go_region_held3 (fun w' => (∀ o, w'.cell? ⟨gb, o, none⟩ = (#[.slice (some ⟨ab, 0, none⟩) N N, .map (some mb)] : Array Value)[o]?) ∧ w'.cell? ⟨ab, j, none⟩ = some (.pointer (some ⟨b, 0, none⟩)))
          (first | exact ⟨cg5, ca5⟩ | exact ⟨fun o => (World.cell?_of_block (heap_setBlock_ne n5)).trans (cg5 o), (World.cell?_of_block (heap_setBlock_ne n6)).trans ca5⟩)
          (fail)
        have W6 : Made (w.alloc (.cells (cfg N F) 32)) (setBlock (w1.setCell ⟨ab, j, none⟩ (.pointer (some ⟨b, 0, none⟩))).drew mb (.map (ents ebs ++ [(⟨.string (agS j), .pointer (some ⟨b, 0, none⟩), ebs.length⟩ : MapEntry)]).toArray (ebs.length + 1))) gb ab mb N (ebs ++ [b]) := by
          have hj := HJ.out
          subst hj
          refine ⟨h1gb.setBlk n5, h1ab.setBlk n6, ?_, n1, n2, n3, n4, n5, n6, ?_⟩
          · rw [ents_snoc, List.length_append, List.length_singleton]
            exact heap_setBlock_eq (by have := (Array.getElem?_eq_some_iff.1 h1mb).1; exact this)
          · exact gb_trans (gb_trans (gb_none hgr (gb_undrew g1)) (gb_setCell w1 ⟨ab, ebs.length, none⟩ _) (fun i e hi => by have e1 : ab = i := Option.some.inj e; omega)) (gb_undrew' (gb_setBlock _ _ _)) (fun i e hi => by have e1 : mb = i := Option.some.inj e; omega)
        have B6 : ∀ t, t < (ebs ++ [b]).length → BlkIs (setBlock (w1.setCell ⟨ab, j, none⟩ (.pointer (some ⟨b, 0, none⟩))).drew mb (.map (ents ebs ++ [(⟨.string (agS j), .pointer (some ⟨b, 0, none⟩), ebs.length⟩ : MapEntry)]).toArray (ebs.length + 1))) ((ebs ++ [b]).getD t 0) (eqc t N F id) 63 ∧ (ebs ++ [b]).getD t 0 ≠ ab ∧ (ebs ++ [b]).getD t 0 ≠ mb := by
          have hj := HJ.out
          subst hj
          intro t ht
          rw [List.length_append, List.length_singleton] at ht
          by_cases e : t < ebs.length
          · have e1 : (ebs ++ [b]).getD t 0 = ebs.getD t 0 := by simp [List.getD, List.getElem?_append_left e]
            obtain ⟨a1, a2, a3⟩ := HBS.out t e
            rw [e1]
            exact ⟨((a1.gbn (gb_undrew g1)).setOther _ a2).setBlk a3, a2, a3⟩
          · obtain rfl : t = ebs.length := by omega
            have e1 : (ebs ++ [b]).getD ebs.length 0 = b := by simp [List.getD]
            rw [e1]
            exact ⟨E5.setBlk (show b ≠ mb by omega), by omega, by omega⟩
        clear hup cg5 ca5 h1gb h1ab h1mb E5 E1
        go_wp2_with fail
        go_roundw
        case rel =>
          refine ⟨ebs ++ [b], ?_, ?_, W6, B6⟩
          · rw [List.length_append, List.length_singleton, ← HJ.out]; omega
          · rw [List.length_append, List.length_singleton, ← HJ.out]; go_num
        case measure => simp [intOf]; omega
      · go_wp2_with fail
        go_ret
        have e : ebs.length = N := by have := HJN.out; omega
        refine ⟨gb, ab, mb, ebs, rfl, hgb, hab, ?_, e, fun t ht => (hbs t (by omega)).1, ?_, G0⟩
        · rw [hmb, e]
        · simp at n1; omega
end Go.Proofs.YbulkxuDoor
