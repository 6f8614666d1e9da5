import Derived.Test.YbulkzkFmtD1
import Derived.Stop.CallBack
import Derived.Stop.IfaceNil
import Derived.Deep.RegionHeld3
import GoSem.ClaimData
import Derived.WalkSpells
namespace Go.Proofs.YbulkzkFmt
open Go.RowKit Go.Extern.Stop Go.Stop Go.Extern
set_option linter.all false

-- the closed facts of the stopped function: fmt.Sprintf is function 7
theorem call7 (args : Array Value) (w : World) : (callFunc 7 args).run Ybaf.prog w = ((FmtStop.sprintf #[9, 67] #[9] args).run Ybaf.prog w).andThen fun v w' => .ok (.value v) w' :=
  run_callFunc_extern Ybaf.func7 (by kernel_rfl) (by kernel_rfl) (by kernel_rfl) (by kernel_rfl) args w
theorem guardOk (name : String) (w : World) : (FmtStop.guard name).run Ybaf.prog w = .ok () w := by kernel_rfl
theorem fmt3 : FmtStop.printed? ⟨#[37, 100, 45, 37, 100, 47, 37, 100]⟩ 3 = some [(0, 100, false), (1, 100, false), (2, 100, false)] := by kernel_rfl
theorem fmt3r (w : World) : (FmtDoors.printed ⟨#[37, 100, 45, 37, 100, 47, 37, 100]⟩ 3).run Ybaf.prog w = .ok [(0, 100, false), (1, 100, false), (2, 100, false)] w := by kernel_rfl
theorem name3 : Ybaf.prog.typeName? 3 3 = some "int" := by kernel_rfl
def shape3 : List UInt8 := [5, 3, 0, 0, 0, 0, 0, 0, 0, 105, 110, 116]
theorem op3_100 (name : String) (x : Int) (w : World) : (FmtStop.operand name false 100 false (.iface 3 (.int .i64 x))).run Ybaf.prog w = .ok (shape3, Go.Extern.Stop.digits 8 (x % 2 ^ 64).toNat) w := by kernel_rfl
theorem strict3 (name : String) (x : Int) (w : World) : (FmtStop.strict name (.iface 3 (.int .i64 x))).run Ybaf.prog w = .ok (shape3, Go.Extern.Stop.digits 8 (x % 2 ^ 64).toNat) w := by kernel_rfl

set_option maxRecDepth 100000 in
set_option maxHeartbeats 1000000 in
theorem draw_stepped (F : Interp) (lo hi st u m k : Int) (hs : Bool) (b : Nat) (w : World) (hF : F.answers w.tape) (hb : BlkIs w b (itm lo hi st true hs) 27)
    (h1 : -32768 ≤ lo) (h2 : lo ≤ hi) (h3 : hi ≤ 100000) (s0 : 1 ≤ st) (s1 : st ≤ 256) (u0 : 0 ≤ u) (u1 : u ≤ 18446744073709551615) (hk : k = min st (hi - lo + 1)) (hm : m = u % k) :
    Calls Ybaf.prog 5 #[.pointer (some ⟨b, 0, none⟩), .int .u64 u] w fun e w' => (∃ t, e = .returned (.string t)) ∧ w.grownBy w' (some b) ∧ BlkIs w' b (itm (lo + m) hi st true hs) 27 := by
  have k0 : 1 ≤ k := by omega
  have k1 : k ≤ 256 := by omega
  have c0 : w.cell? ⟨b, 0, none⟩ = some (.int .i64 lo) := by rw [hb.cells]; rfl
  have c1 : w.cell? ⟨b, 1, none⟩ = some (.int .i64 hi) := by rw [hb.cells]; rfl
  have c2 : w.cell? ⟨b, 2, none⟩ = some (.int .i64 st) := by rw [hb.cells]; rfl
  have c3 : w.cell? ⟨b, 3, none⟩ = some (.bool true) := by rw [hb.cells]; rfl
  have f0 : w.frozen? ⟨b, 0, none⟩ = false := frozen_of_row _ _ _ _ _ hb
  have m0 : 0 ≤ m := by rw [hm]; exact Int.emod_nonneg _ (by omega)
  have m1 : m < k := by rw [hm]; exact Int.emod_lt_of_pos _ (by omega)
  have hd : (k == 0) = false := beq_eq_false_iff_ne.2 (by omega)
  have hwr : IntKind.u64.wrap k = k := by
    simp [IntKind.wrap, IntKind.signed, IntKind.bits]; omega
  have hd2 : ¬ (k = 0) := by omega
  have hmm : u % k = m := hm.symm
  have hmt : u.tmod k = m := by rw [Int.tmod_eq_emod_of_nonneg u0]; exact hmm
  have hmin : min st (hi - lo + 1) = k := hk.symm
  have HB : Hid (_ = _) := hb
  have hF' := answers_open hF
  clear hb hm hF hk
  go_enter Ybaf.func5, Ybaf.ntmps5
  go_wp2_with fail
  go_quiet (fail)
  go_wp2_with fail
  go_region
  go_wp2_with fail
  have hc7 := call7
  have hgo := guardOk
  have hf3 := fmt3
  have hf3r := fmt3r
  have hop := op3_100
  have hst := strict3
  go_region
  go_wp2_with fail
  go_ret
  refine ⟨⟨_, rfl⟩, ?_, ?_⟩
  · exact gb_none (gb_none (gb_none (gb_trans (gb_dn w (nq + 1) _) (gb_setCell _ ⟨b, 0, none⟩ _) (fun i e _ => by rw [← e])) (World.grownBy_alloc _ _ _)) (gb_drew _ _)) (gb_drew _ _)
  · have hb : BlkIs w b (itm lo hi st true hs) 27 := HB
    exact (((hb.gbn (gb_dn w (nq + 1) _)).set (j := 0) (.int .i64 (lo + m))).alloc _)
end Go.Proofs.YbulkzkFmt
