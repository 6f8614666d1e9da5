import Derived.Test.YbulkxuDoorW7
namespace Go.Proofs.YbulkxuDoor
open Go.RowKit
set_option linter.all false

/-- 'reach(k)': the messages of the iterations r+1 .. k; 'reached' is then k, or r if that is greater. -/
theorem reach_any (s : ByteArray) (n h : Nat) (id inp : Int) (q : Bool) (r k : Int) (eb B : Nat) (w : World) (d : Nat) (hd : d ≤ 10) (hn : n ≤ 100) (hh : h ≤ 100) (hk : d = (k - r).toNat) (hs : s.size ≤ 100000)
    (hr0 : -9223372036854775808 ≤ r) (hr1 : r + 1 ≤ 9223372036854775807) (hk0 : -9223372036854775808 ≤ k) (hk1 : k + 1 ≤ 9223372036854775807)
    (hi0 : -9223372036854775808 ≤ id) (hi1 : id ≤ 9223372036854775807) (hB : B ≤ eb) (hT : Tab B w)
    (hE : BlkIs w eb (eqv s n h id inp q r) 63) :
    Calls Ybad.prog 10 #[.pointer (some ⟨eb, 0, none⟩), .int .i64 k] w fun e w' => ∃ v', e = .returned v' ∧ w'.ownsRow w.heap.size 83 14 v' (d * cnt n h q) (iters s n h id inp q r d) ∧ w.grownBy w' (some eb) ∧ BlkIs w' eb (eqv s n h id inp q (r + d)) 63 := by
  cases q
  · exact reach_c s n h id inp r k eb B w d hd hn hh hk hs hr0 hr1 hk0 hk1 hi0 hi1 hB hT hE
  · exact reach_q s n h id inp r k eb w d (by omega) (by omega) hk hr0 hr1 hk0 hk1 hE
end Go.Proofs.YbulkxuDoor
