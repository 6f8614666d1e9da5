import Derived.Test.YbulkxuDoorW1
import Derived.Test.YbulkxuDoorRow
import Derived.Test.YbulkxuDoorW3
/-! What 'reach' lays, as plain lists of cells. -/
namespace Go.Proofs.YbulkxuDoor
open Go.RowKit
set_option linter.all false

def nul : ByteArray := ⟨#[]⟩
/-- The quadratic agreement's messages of the first j kinds. -/
def qTo (s : ByteArray) (h : Nat) (inp it : Int) : Nat → List Value
  | 0 => []
  | j + 1 => qTo s h inp it j ++ halves h (msg s it (4 + j) nul 0 nul inp) (msg s it (4 + j) nul 0 nul (wrap64 (1 - inp))) h
/-- A step's value. -/
def stepS (b : Int) (d : Bool) : ByteArray := byteStr (if d then b + 2 else b)
/-- What goes to all in one sender's broadcast. -/
def fourOf (s : ByteArray) (n : Nat) (it x : Int) (own oth : ByteArray) (sd : Int) : List Value :=
  toAll (msg s it 1 (castSess s it x sd) 2 own 0) n ++ toAll (msg s it 1 (castSess s it x sd) 2 oth 0) n ++ toAll (msg s it 1 (castSess s it x sd) 3 own 0) n ++ toAll (msg s it 1 (castSess s it x sd) 3 oth 0) n
def sdTo (s : ByteArray) (n : Nat) (it x : Int) (own oth : ByteArray) : Nat → List Value
  | 0 => []
  | j + 1 => sdTo s n it x own oth j ++ fourOf s n it x own oth j
/-- The messages of step x. -/
def stepOf (s : ByteArray) (n h : Nat) (id inp it x : Int) : List Value :=
  halves h (msg s it 1 (castSess s it x id) 1 (stepS inp (x == 3)) 0) (msg s it 1 (castSess s it x id) 1 (stepS (1 - inp) (x == 3)) 0) h ++
    sdTo s n it x (stepS inp (x == 3)) (stepS (1 - inp) (x == 3)) n
def xTo (s : ByteArray) (n h : Nat) (id inp it : Int) : Nat → List Value
  | 0 => []
  | j + 1 => xTo s n h id inp it j ++ stepOf s n h id inp it (j + 1)
/-- One iteration's messages. -/
def iter (s : ByteArray) (n h : Nat) (id inp : Int) (q : Bool) (it : Int) : List Value := if q then qTo s h inp it 5 else xTo s n h id inp it 3
def cnt (n h : Nat) (q : Bool) : Nat := if q then 5 * h else 3 * (h + n * (4 * n))
/-- The messages of the first d iterations behind r. -/
def iters (s : ByteArray) (n h : Nat) (id inp : Int) (q : Bool) (r : Int) : Nat → List Value
  | 0 => []
  | d + 1 => iters s n h id inp q r d ++ iter s n h id inp q (r + d + 1)

theorem iters_add (s : ByteArray) (n h : Nat) (id inp : Int) (q : Bool) (r : Int) (a : Nat) : ∀ b, iters s n h id inp q r (a + b) = iters s n h id inp q r a ++ iters s n h id inp q (r + a) b
  | 0 => by simp [iters]
  | b + 1 => by
    rw [← Nat.add_assoc, iters, iters_add s n h id inp q r a b, iters, List.append_assoc]
    congr 3
    push_cast; omega

/-- n messages, addressed. -/
def Good (xs : List Value) (n : Nat) : Prop := xs.length = n * 14 ∧ ∀ k, k < n → ∃ (t : Int) (s : ByteArray) (it kd : Int) (cs : ByteArray) (ck : Int) (cv : ByteArray) (v : Int), (xs.drop (k * 14)).take 14 = .int .i64 t :: msg s it kd cs ck cv v

theorem Good.nil : Good [] 0 := ⟨rfl, fun k hk => by omega⟩
theorem Good.append {xs ys : List Value} {n m : Nat} (h : Good xs n) (k : Good ys m) : Good (xs ++ ys) (n + m) := by
  refine ⟨by rw [List.length_append, h.1, k.1, Nat.add_mul], fun i hi => ?_⟩
  by_cases hlt : i < n
  · obtain ⟨t, s, it, kd, cs, ck, cv, v, e⟩ := h.2 i hlt
    refine ⟨t, s, it, kd, cs, ck, cv, v, ?_⟩
    rw [List.drop_append_of_le_length (by rw [h.1]; omega), List.take_append_of_le_length (by rw [List.length_drop, h.1]; omega)]
    exact e
  · obtain ⟨t, s, it, kd, cs, ck, cv, v, e⟩ := k.2 (i - n) (by omega)
    refine ⟨t, s, it, kd, cs, ck, cv, v, ?_⟩
    rw [List.drop_append, List.drop_eq_nil_of_le (by rw [h.1]; omega), List.nil_append, h.1, show i * 14 - n * 14 = (i - n) * 14 by omega]
    exact e
theorem Good.one (t : Int) (s : ByteArray) (it kd : Int) (cs : ByteArray) (ck : Int) (cv : ByteArray) (v : Int) : Good (.int .i64 t :: msg s it kd cs ck cv v) 1 :=
  ⟨rfl, fun k hk => ⟨t, s, it, kd, cs, ck, cv, v, by obtain rfl : k = 0 := by omega
                                                     rfl⟩⟩
theorem Good.halves (h : Nat) (s : ByteArray) (it kd : Int) (cs : ByteArray) (ck : Int) (cv : ByteArray) (v : Int) (s' : ByteArray) (it' kd' : Int) (cs' : ByteArray) (ck' : Int) (cv' : ByteArray) (v' : Int) :
    ∀ k, Good (halves h (msg s it kd cs ck cv v) (msg s' it' kd' cs' ck' cv' v') k) k
  | 0 => Good.nil
  | k + 1 => by
    refine (Good.halves h s it kd cs ck cv v s' it' kd' cs' ck' cv' v' k).append ?_
    split
    · exact Good.one ..
    · exact Good.one ..
theorem Good.toAll (s : ByteArray) (it kd : Int) (cs : ByteArray) (ck : Int) (cv : ByteArray) (v : Int) : ∀ k, Good (toAll (msg s it kd cs ck cv v) k) k
  | 0 => Good.nil
  | k + 1 => (Good.toAll s it kd cs ck cv v k).append (Good.one ..)
theorem Good.cast {xs : List Value} {n m : Nat} (h : Good xs n) (e : n = m) : Good xs m := e ▸ h

theorem Good.qTo (s : ByteArray) (h : Nat) (inp it : Int) : ∀ j, Good (qTo s h inp it j) (j * h)
  | 0 => Good.nil.cast (by simp)
  | j + 1 => ((Good.qTo s h inp it j).append (Good.halves ..)).cast (by rw [Nat.add_mul]; simp)
theorem Good.fourOf (s : ByteArray) (n : Nat) (it x : Int) (own oth : ByteArray) (sd : Int) : Good (fourOf s n it x own oth sd) (4 * n) :=
  ((((Good.toAll ..).append (Good.toAll ..)).append (Good.toAll ..)).append (Good.toAll ..)).cast (by omega)
theorem Good.sdTo (s : ByteArray) (n : Nat) (it x : Int) (own oth : ByteArray) : ∀ j, Good (sdTo s n it x own oth j) (j * (4 * n))
  | 0 => Good.nil.cast (by simp)
  | j + 1 => ((Good.sdTo s n it x own oth j).append (Good.fourOf ..)).cast (by rw [Nat.add_mul]; simp)
theorem Good.stepOf (s : ByteArray) (n h : Nat) (id inp it x : Int) : Good (stepOf s n h id inp it x) (h + n * (4 * n)) := (Good.halves ..).append (Good.sdTo ..)
theorem Good.xTo (s : ByteArray) (n h : Nat) (id inp it : Int) : ∀ j, Good (xTo s n h id inp it j) (j * (h + n * (4 * n)))
  | 0 => Good.nil.cast (by simp)
  | j + 1 => ((Good.xTo s n h id inp it j).append (Good.stepOf ..)).cast (by rw [Nat.add_mul (n := j)]; simp)
theorem Good.iter (s : ByteArray) (n h : Nat) (id inp : Int) (q : Bool) (it : Int) : Good (iter s n h id inp q it) (cnt n h q) := by
  cases q
  · exact Good.xTo ..
  · exact Good.qTo ..
theorem Good.iters (s : ByteArray) (n h : Nat) (id inp : Int) (q : Bool) (r : Int) : ∀ d, Good (iters s n h id inp q r d) (d * cnt n h q)
  | 0 => Good.nil.cast (by simp)
  | d + 1 => ((Good.iters s n h id inp q r d).append (Good.iter ..)).cast (by rw [Nat.add_mul]; simp)


theorem Good.cells {xs : List Value} {n : Nat} (h : Good xs n) : ∀ u ∈ xs, u.oneCell' = true := by
  intro u hu
  obtain ⟨j, hj, rfl⟩ := List.mem_iff_getElem.1 hu
  obtain ⟨t, s, it, kd, cs, ck, cv, v, e⟩ := h.2 (j / 14) (by have := h.1; omega)
  have : xs[j] ∈ (Value.int .i64 t :: msg s it kd cs ck cv v) := by
    rw [← e]
    refine List.mem_iff_getElem?.2 ⟨j % 14, ?_⟩
    rw [List.getElem?_take, if_pos (by omega), List.getElem?_drop, show j / 14 * 14 + j % 14 = j by omega]
    simp
  exact one_cons t _ (msg_one s it kd cs ck cv v) _ this
end Go.Proofs.YbulkxuDoor
