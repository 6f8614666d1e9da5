import Derived.Test.YbulkzkFmtKit
import Derived.Deep.QuietTactic
import Derived.BigQuiet
namespace Go.Proofs.YbulkzkFmt
open Go.RowKit
set_option linter.all false

theorem gb_dn (w : World) (k : Nat) (r : Option Nat) : w.grownBy (w.drewN k) r := by
  have hh : ∀ k, (w.drewN k).heap = w.heap ∧ (w.drewN k).os = w.os ∧ (w.drewN k).tape = w.tape ∧ (w.drewN k).output = w.output := by
    intro k
    induction k with
    | zero => exact ⟨rfl, rfl, rfl, rfl⟩
    | succ k ih => simp [World.drewN, World.drew] at ih ⊢
  obtain ⟨h1, h2, h3, h4⟩ := hh k
  exact ⟨h2, h3, h4, by rw [h1]; exact Nat.le_refl _, fun i _ _ => by rw [h1]⟩

/-- An item's five cells. -/
def itm (lo hi st : Int) (sp hs : Bool) : Array Value := #[.int .i64 lo, .int .i64 hi, .int .i64 st, .bool sp, .bool hs]

set_option maxRecDepth 100000 in
set_option maxHeartbeats 1000000 in
theorem draw_plain (lo hi st u m : Int) (hs : Bool) (b : Nat) (B : Nat) (w : World) (hT : Tab B w) (hB : B ≤ b) (hb : BlkIs w b (itm lo hi st false hs) 27)
    (h1 : -32768 ≤ lo) (h2 : lo ≤ hi) (h3 : hi ≤ 100000) (u0 : 0 ≤ u) (u1 : u ≤ 18446744073709551615) (hm : m = u % (hi - lo + 1)) :
    Calls Ybaf.prog 5 #[.pointer (some ⟨b, 0, none⟩), .int .u64 u] w fun e w' => e = .returned (.string (dec (lo + m))) ∧ w.grownBy w' (some b) ∧ BlkIs w' b (itm (lo + m) (lo + m) st false hs) 27 := by
  have c0 : w.cell? ⟨b, 0, none⟩ = some (.int .i64 lo) := by rw [hb.cells]; rfl
  have c1 : w.cell? ⟨b, 1, none⟩ = some (.int .i64 hi) := by rw [hb.cells]; rfl
  have c3 : w.cell? ⟨b, 3, none⟩ = some (.bool false) := by rw [hb.cells]; rfl
  have f0 : w.frozen? ⟨b, 0, none⟩ = false := frozen_of_row _ _ _ _ _ hb
  have f1 : w.frozen? ⟨b, 1, none⟩ = false := frozen_of_row _ _ _ _ _ hb
  have m0 : 0 ≤ m := by rw [hm]; exact Int.emod_nonneg _ (by omega)
  have m1 : m < hi - lo + 1 := by rw [hm]; exact Int.emod_lt_of_pos _ (by omega)
  have hd : ((hi - lo + 1) == 0) = false := beq_eq_false_iff_ne.2 (by omega)
  have hwr : IntKind.u64.wrap (hi - lo + 1) = hi - lo + 1 := by
    have e : hi - lo + 1 = ((hi - lo + 1).toNat : Int) := by omega
    simp [IntKind.wrap, IntKind.signed, IntKind.bits]; omega
  have hd2 : ¬ (hi - lo + 1 = 0) := by omega
  have hd3 : ¬ ((hi - lo + 1) % 18446744073709551616 = 0) := by omega
  have hmm : u % (hi - lo + 1) = m := hm.symm
  have hmt : u.tmod (hi - lo + 1) = m := by rw [Int.tmod_eq_emod_of_nonneg u0]; exact hmm
  have HB : Hid (_ = _) := hb
  have HT : Hid (Tab B w) := hT
  clear hb hT hm
  go_enter Ybaf.func5, Ybaf.ntmps5
  go_wp2_with fail
  go_quiet (fail)
  go_wp2_with fail
  go_region
  go_wp2_with fail
  have g1 : w.grownBy (((w.drewN (nq + 1)).setCell ⟨b, 0, none⟩ (.int .i64 (lo + m))).setCell ⟨b, 1, none⟩ (.int .i64 (lo + m))) (some b) :=
    gb_trans (gb_trans (gb_dn w _ _) (gb_setCell _ ⟨b, 0, none⟩ _) (fun i e _ => by rw [← e])) (gb_setCell _ ⟨b, 1, none⟩ _) (fun i e _ => by rw [← e])
  have hb : BlkIs w b (itm lo hi st false hs) 27 := HB
  have b1 : BlkIs (((w.drewN (nq + 1)).setCell ⟨b, 0, none⟩ (.int .i64 (lo + m))).setCell ⟨b, 1, none⟩ (.int .i64 (lo + m))) b (itm (lo + m) (lo + m) st false hs) 27 :=
    ((hb.gbn (gb_dn w (nq + 1) _)).set (j := 0) (.int .i64 (lo + m))).set (j := 1) (.int .i64 (lo + m))
  have lb := hb.lt
  refine (itoa_any (lo + m) (by omega) (by omega) (B := B) _ (Tab.gb HT g1 (by omega) (fun k e => by cases e; exact hB))).mono ?_
  rintro e w1 ⟨rfl, g2⟩
  have G := gb_none g1 g2
  have b2 := b1.gbn g2
  clear g1 g2 b1
  go_wp2_with fail
  go_ret
  exact ⟨rfl, G, b2⟩
end Go.Proofs.YbulkzkFmt
