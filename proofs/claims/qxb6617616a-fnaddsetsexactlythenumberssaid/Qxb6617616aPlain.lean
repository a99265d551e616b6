/-
  SEAT b6617616a. The plain function: a set of numbers as words of 64 bits; adding a number. No Go in sight.
-/
import Derived.Test.Qxb6617616aBufs

namespace Go.Proofs.Qxb6617616a.Pre

/-- The bit that number i sets in word w. -/
def bit (i w : Nat) : Nat := if w = i / 64 then 2 ^ (i % 64) else 0
/-- The words, lengthened to at least k. -/
def grow (xs : List Nat) (k : Nat) : List Nat := xs ++ List.replicate (k - xs.length) 0
/-- The words behind 'add i'. -/
def addW (xs : List Nat) (i : Nat) : List Nat := (grow xs (i / 64 + 1)).set (i / 64) ((grow xs (i / 64 + 1)).getD (i / 64) 0 ||| 2 ^ (i % 64))

theorem grow_length (xs : List Nat) (k : Nat) : (grow xs k).length = max xs.length k := by simp [grow]; omega
theorem grow_getD (xs : List Nat) (k w : Nat) : (grow xs k).getD w 0 = xs.getD w 0 := by
  unfold grow
  rw [List.getD_eq_getElem?_getD, List.getD_eq_getElem?_getD, List.getElem?_append]
  split
  · rfl
  · rw [List.getElem?_eq_none (l := xs) (by omega), List.getElem?_replicate]
    split <;> rfl
theorem addW_length (xs : List Nat) (i : Nat) : (addW xs i).length = max xs.length (i / 64 + 1) := by simp [addW, grow_length]
theorem addW_getD (xs : List Nat) (i w : Nat) : (addW xs i).getD w 0 = xs.getD w 0 ||| bit i w := by
  have hl := grow_length xs (i / 64 + 1)
  unfold addW bit
  rw [List.getD_eq_getElem?_getD, List.getElem?_set]
  by_cases h : i / 64 = w
  · subst h
    rw [if_pos rfl, if_pos (by omega), if_pos rfl, grow_getD]
    rfl
  · rw [if_neg h, if_neg (fun e => h e.symm), ← List.getD_eq_getElem?_getD, grow_getD]
    simp

theorem ext_getD {xs ys : List Nat} (hl : xs.length = ys.length) (h : ∀ w, xs.getD w 0 = ys.getD w 0) : xs = ys := by
  apply List.ext_getElem hl
  intro i h1 h2
  have := h i
  simpa [List.getD_eq_getElem?_getD, List.getElem?_eq_getElem h1, List.getElem?_eq_getElem h2] using this

theorem or_swap (a b c : Nat) : a ||| b ||| c = a ||| c ||| b := by rw [Nat.or_assoc, Nat.or_comm b c, ← Nat.or_assoc]

theorem addW_comm (xs : List Nat) (i j : Nat) : addW (addW xs i) j = addW (addW xs j) i := by
  apply ext_getD
  · simp only [addW_length]; omega
  · intro w
    simp only [addW_getD]
    exact or_swap _ _ _

theorem addW_twice (xs : List Nat) (i : Nat) : addW (addW xs i) i = addW xs i := by
  apply ext_getD
  · simp only [addW_length]; omega
  · intro w
    simp only [addW_getD]
    rw [Nat.or_assoc, Nat.or_self]

def Fits (xs : List Nat) : Prop := ∀ w, xs.getD w 0 < 18446744073709551616

theorem bit_lt (i w : Nat) : bit i w < 18446744073709551616 := by
  unfold bit
  split
  · exact Nat.lt_of_lt_of_le (Nat.pow_lt_pow_right (by omega) (Nat.mod_lt i (by omega : 0 < 64))) (by decide)
  · omega

theorem Fits.add {xs : List Nat} (h : Fits xs) (i : Nat) : Fits (addW xs i) := by
  intro w
  rw [addW_getD]
  exact Nat.or_lt_two_pow (n := 64) (h w) (bit_lt i w)

/-- Bit b of word x, as the law reckons it. -/
def bitOf (v b : Nat) : Bool := v / 2 ^ b % 2 == 1
theorem bitOf_test (v b : Nat) : bitOf v b = v.testBit b := by
  unfold bitOf
  rw [Nat.testBit_eq_decide_div_mod_eq]
  by_cases h : v / 2 ^ b % 2 = 1 <;> simp [h]

theorem test_bit (i x b : Nat) (hb : b < 64) : (bit i x).testBit b = decide (64 * x + b = i) := by
  unfold bit
  split
  · rename_i h
    rw [Nat.testBit_two_pow]
    congr 1
    apply propext
    omega
  · rename_i h
    rw [Nat.zero_testBit]
    symm
    apply decide_eq_false
    omega

/-- THE LAW OF THE BITS: bit b of word x behind 'add i; add j'. -/
theorem bits_law (xs : List Nat) (i j x b : Nat) (hb : b < 64) :
    bitOf ((addW (addW xs i) j).getD x 0) b = (bitOf (xs.getD x 0) b || decide (64 * x + b = i) || decide (64 * x + b = j)) := by
  rw [bitOf_test, bitOf_test, addW_getD, addW_getD, Nat.testBit_or, Nat.testBit_or, test_bit i x b hb, test_bit j x b hb]

end Go.Proofs.Qxb6617616a.Pre
