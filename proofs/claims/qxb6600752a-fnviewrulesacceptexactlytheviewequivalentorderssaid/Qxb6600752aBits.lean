import Derived.Laws.BitsAllLaws
import Derived.Laws.Bits64b
namespace Go.Proofs.Qxb6600752a

/-- Bit k of a word set, cleared. -/
def setB (x k : Nat) : Nat := x ||| 2 ^ k
def clrB (x k : Nat) : Nat := x &&& (2 ^ 64 - (2 ^ k + 1))
def p64 : Nat := 18446744073709551616
theorem pow_lt64 {k : Nat} (h : k < 64) : 2 ^ k < 18446744073709551616 := by
  have := Nat.pow_lt_pow_right (a := 2) (by omega) h
  simpa using this
theorem wrap_pow {k : Nat} (h : k < 64) : IntKind.u64.wrap (2 ^ k) = ((2 ^ k : Nat) : Int) := by
  have h1 := pow_lt64 h
  have h2 : ((2 ^ k : Nat) : Int) = (2 : Int) ^ k := by simp
  rw [IntKind.wrap_u64, ← h2]
  generalize 2 ^ k = m at h1
  omega
theorem or_pow {x k : Nat} (hx : x < 18446744073709551616) (h : k < 64) : bits .or .u64 (x : Int) (IntKind.u64.wrap (2 ^ k)) = ((setB x k : Nat) : Int) := by
  rw [wrap_pow h, bits_or_u64_nat _ _ hx (pow_lt64 h)]
  rfl
theorem andNot_pow {x k : Nat} (hx : x < 18446744073709551616) (h : k < 64) : bits .andNot .u64 (x : Int) (IntKind.u64.wrap (2 ^ k)) = ((clrB x k : Nat) : Int) := by
  rw [wrap_pow h, u64_andNot_nat _ _ hx (pow_lt64 h)]
  unfold clrB
  have e : 18446744073709551615 - 2 ^ k = 2 ^ 64 - (2 ^ k + 1) := by omega
  rw [e]
theorem and_pow {x k : Nat} (hx : x < 18446744073709551616) (h : k < 64) : (bits .and .u64 (x : Int) (IntKind.u64.wrap (2 ^ k)) != 0) = x.testBit k := by
  rw [wrap_pow h, bits_and_u64_nat _ _ hx (pow_lt64 h)]
  cases hb : x.testBit k
  · have : x &&& 2 ^ k = 0 := by
      apply Nat.eq_of_testBit_eq
      intro i
      rw [Nat.testBit_and, Nat.testBit_two_pow, Nat.zero_testBit]
      by_cases hi : k = i
      · subst hi; simp [hb]
      · simp [hi]
    rw [this]; rfl
  · have : (x &&& 2 ^ k).testBit k = true := by rw [Nat.testBit_and, Nat.testBit_two_pow, hb]; simp
    have h0 : x &&& 2 ^ k ≠ 0 := by intro e; rw [e, Nat.zero_testBit] at this; cases this
    generalize x &&& 2 ^ k = m at h0
    simp
    omega
theorem setB_lt {x k : Nat} (hx : x < 18446744073709551616) (h : k < 64) : setB x k < 18446744073709551616 := by
  have := Nat.or_lt_two_pow (n := 64) (x := x) (y := 2 ^ k) (by simpa using hx) (by simpa using pow_lt64 h)
  simpa [setB] using this
theorem clrB_lt {x k : Nat} (hx : x < 18446744073709551616) : clrB x k < 18446744073709551616 := by
  unfold clrB
  exact Nat.lt_of_le_of_lt Nat.and_le_left hx
theorem setB_test (x k j : Nat) : (setB x k).testBit j = (x.testBit j || decide (k = j)) := by
  unfold setB
  rw [Nat.testBit_or, Nat.testBit_two_pow]
theorem clrB_test (x k j : Nat) (hk : k < 64) (hj : j < 64) : (clrB x k).testBit j = (x.testBit j && !decide (k = j)) := by
  unfold clrB
  rw [Nat.testBit_and, Nat.testBit_two_pow_sub_succ (by simpa using pow_lt64 hk), Nat.testBit_two_pow]
  simp [hj]


/-- What is in a and not in b. -/
def andN (a b : Nat) : Nat := a &&& (2 ^ 64 - (b + 1))
theorem andN_bits {a b : Nat} (ha : a < 18446744073709551616) (hb : b < 18446744073709551616) : bits .andNot .u64 (a : Int) (b : Int) = ((andN a b : Nat) : Int) := by
  rw [u64_andNot_nat _ _ ha hb]
  unfold andN
  have e : 18446744073709551615 - b = 2 ^ 64 - (b + 1) := by omega
  rw [e]
theorem andN_lt {a b : Nat} (ha : a < 18446744073709551616) : andN a b < 18446744073709551616 := Nat.lt_of_le_of_lt Nat.and_le_left ha
theorem andN_test (a b j : Nat) (hb : b < 18446744073709551616) (hj : j < 64) : (andN a b).testBit j = (a.testBit j && !b.testBit j) := by
  unfold andN
  rw [Nat.testBit_and, Nat.testBit_two_pow_sub_succ (by simpa using hb)]
  simp [hj]
theorem and_lt {a b : Nat} (ha : a < 18446744073709551616) : a &&& b < 18446744073709551616 := Nat.lt_of_le_of_lt Nat.and_le_left ha
theorem or_lt {a b : Nat} (ha : a < 18446744073709551616) (hb : b < 18446744073709551616) : a ||| b < 18446744073709551616 := by
  have := Nat.or_lt_two_pow (n := 64) (x := a) (y := b) (by simpa using ha) (by simpa using hb)
  simpa using this
/-- A word is nought just if it has no bit below 64. -/
theorem zero_iff {a : Nat} (ha : a < 18446744073709551616) : a = 0 ↔ ∀ j, j < 64 → a.testBit j = false := by
  constructor
  · rintro rfl j _
    simp
  · intro h
    apply Nat.eq_of_testBit_eq
    intro j
    rw [Nat.zero_testBit]
    by_cases hj : j < 64
    · exact h j hj
    · exact Nat.testBit_lt_two_pow (Nat.lt_of_lt_of_le (by simpa using ha : a < 2 ^ 64) (Nat.pow_le_pow_right (by omega) (by omega)))
end Go.Proofs.Qxb6600752a
