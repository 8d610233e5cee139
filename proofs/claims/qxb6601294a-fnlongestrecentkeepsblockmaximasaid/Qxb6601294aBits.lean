import Derived.Laws.BitsAllLaws
import Derived.Laws.Bits64b
namespace Go.Proofs.Qxb6601294a

/-- Bit k of a word set, cleared. -/
def setB (x k : Nat) : Nat := x ||| 2 ^ k
def clrB (x k : Nat) : Nat := x &&& (2 ^ 64 - (2 ^ k + 1))
def p64 : Nat := 18446744073709551616
theorem pow_lt64 {k : Nat} (h : k < 64) : 2 ^ k < 18446744073709551616 := by
  have := Nat.pow_lt_pow_right (a := 2) (by omega) h
  simpa using this
theorem wrap_pow {k : Nat} (h : k < 64) : IntKind.u64.wrap (2 ^ k) = ((2 ^ k : Nat) : Int) := by
  have h1 := pow_lt64 h
  have h2 : ((2 ^ k : Nat) : Int) = (2 : Int) ^ k := by simp
  rw [IntKind.wrap_u64, ← h2]
  generalize 2 ^ k = m at h1
  omega
theorem or_pow {x k : Nat} (hx : x < 18446744073709551616) (h : k < 64) : bits .or .u64 (x : Int) (IntKind.u64.wrap (2 ^ k)) = ((setB x k : Nat) : Int) := by
  rw [wrap_pow h, bits_or_u64_nat _ _ hx (pow_lt64 h)]
  rfl
theorem andNot_pow {x k : Nat} (hx : x < 18446744073709551616) (h : k < 64) : bits .andNot .u64 (x : Int) (IntKind.u64.wrap (2 ^ k)) = ((clrB x k : Nat) : Int) := by
  rw [wrap_pow h, u64_andNot_nat _ _ hx (pow_lt64 h)]
  unfold clrB
  have e : 18446744073709551615 - 2 ^ k = 2 ^ 64 - (2 ^ k + 1) := by omega
  rw [e]
theorem and_pow {x k : Nat} (hx : x < 18446744073709551616) (h : k < 64) : (bits .and .u64 (x : Int) (IntKind.u64.wrap (2 ^ k)) != 0) = x.testBit k := by
  rw [wrap_pow h, bits_and_u64_nat _ _ hx (pow_lt64 h)]
  cases hb : x.testBit k
  · have : x &&& 2 ^ k = 0 := by
      apply Nat.eq_of_testBit_eq
      intro i
      rw [Nat.testBit_and, Nat.testBit_two_pow, Nat.zero_testBit]
      by_cases hi : k = i
      · subst hi; simp [hb]
      · simp [hi]
    rw [this]; rfl
  · have : (x &&& 2 ^ k).testBit k = true := by rw [Nat.testBit_and, Nat.testBit_two_pow, hb]; simp
    have h0 : x &&& 2 ^ k ≠ 0 := by intro e; rw [e, Nat.zero_testBit] at this; cases this
    generalize x &&& 2 ^ k = m at h0
    simp
    omega
theorem setB_lt {x k : Nat} (hx : x < 18446744073709551616) (h : k < 64) : setB x k < 18446744073709551616 := by
  have := Nat.or_lt_two_pow (n := 64) (x := x) (y := 2 ^ k) (by simpa using hx) (by simpa using pow_lt64 h)
  simpa [setB] using this
theorem clrB_lt {x k : Nat} (hx : x < 18446744073709551616) : clrB x k < 18446744073709551616 := by
  unfold clrB
  exact Nat.lt_of_le_of_lt Nat.and_le_left hx
theorem setB_test (x k j : Nat) : (setB x k).testBit j = (x.testBit j || decide (k = j)) := by
  unfold setB
  rw [Nat.testBit_or, Nat.testBit_two_pow]
theorem clrB_test (x k j : Nat) (hk : k < 64) (hj : j < 64) : (clrB x k).testBit j = (x.testBit j && !decide (k = j)) := by
  unfold clrB
  rw [Nat.testBit_and, Nat.testBit_two_pow_sub_succ (by simpa using pow_lt64 hk), Nat.testBit_two_pow]
  simp [hj]

/-- Bit i of a row of words. -/
def bit (ws : List Nat) (i : Nat) : Bool := (ws.getD (i / 64) 0).testBit (i % 64)
def setAt (ws : List Nat) (i : Nat) : List Nat := ws.set (i / 64) (setB (ws.getD (i / 64) 0) (i % 64))
def clrAt (ws : List Nat) (i : Nat) : List Nat := ws.set (i / 64) (clrB (ws.getD (i / 64) 0) (i % 64))
def Small (ws : List Nat) : Prop := ∀ x ∈ ws, x < 18446744073709551616
theorem small_getD {ws : List Nat} (h : Small ws) (j : Nat) : ws.getD j 0 < 18446744073709551616 := by
  by_cases hj : j < ws.length
  · simp only [List.getD, List.getElem?_eq_getElem hj, Option.getD_some]
    exact h _ (List.getElem_mem hj)
  · simp [List.getD, hj]
theorem small_set {ws : List Nat} (h : Small ws) (j x : Nat) (hx : x < 18446744073709551616) : Small (ws.set j x) := by
  intro y hy
  rcases List.mem_or_eq_of_mem_set hy with h1 | h1
  · exact h _ h1
  · omega
theorem small_push {ws : List Nat} (h : Small ws) : Small (ws ++ [0]) := by
  intro y hy
  rcases List.mem_append.1 hy with h1 | h1
  · exact h _ h1
  · simp at h1; omega
theorem bit_set {ws : List Nat} {i : Nat} (hi : i / 64 < ws.length) (x : Nat) (k : Nat) : bit (ws.set (i / 64) x) k = if k / 64 = i / 64 then x.testBit (k % 64) else bit ws k := by
  unfold bit
  simp only [List.getD, List.getElem?_set]
  by_cases h : i / 64 = k / 64
  · rw [if_pos h, if_pos h.symm, if_pos hi]; rfl
  · rw [if_neg h, if_neg (fun e => h e.symm)]
theorem bit_setAt {ws : List Nat} {i : Nat} (hi : i / 64 < ws.length) (k : Nat) : bit (setAt ws i) k = if k = i then true else bit ws k := by
  unfold setAt
  rw [bit_set hi, setB_test]
  by_cases h : k / 64 = i / 64
  · rw [if_pos h]
    by_cases h2 : k = i
    · subst h2; simp
    · rw [if_neg h2]
      have : ¬ (i % 64 = k % 64) := by omega
      simp [this, bit, h]
  · rw [if_neg h, if_neg (by intro e; exact h (by rw [e]))]
theorem bit_clrAt {ws : List Nat} {i : Nat} (hi : i / 64 < ws.length) (k : Nat) : bit (clrAt ws i) k = if k = i then false else bit ws k := by
  unfold clrAt
  rw [bit_set hi, clrB_test _ _ _ (by omega) (by omega)]
  by_cases h : k / 64 = i / 64
  · rw [if_pos h]
    by_cases h2 : k = i
    · subst h2; simp
    · rw [if_neg h2]
      have : ¬ (i % 64 = k % 64) := by omega
      simp [this, bit, h]
  · rw [if_neg h, if_neg (by intro e; exact h (by rw [e]))]
theorem bit_push (ws : List Nat) (k : Nat) : bit (ws ++ [0]) k = bit ws k := by
  unfold bit
  simp only [List.getD, List.getElem?_append]
  split
  · rfl
  · rename_i h
    rw [List.getElem?_eq_none (by omega : ws.length ≤ k / 64)]
    cases h2 : k / 64 - ws.length with
    | zero => simp
    | succ m => simp
theorem setAt_length (ws : List Nat) (i : Nat) : (setAt ws i).length = ws.length := by simp [setAt]
theorem clrAt_length (ws : List Nat) (i : Nat) : (clrAt ws i).length = ws.length := by simp [clrAt]
theorem small_setAt {ws : List Nat} (h : Small ws) (i : Nat) : Small (setAt ws i) := small_set h _ _ (setB_lt (small_getD h _) (by omega))
theorem small_clrAt {ws : List Nat} (h : Small ws) (i : Nat) : Small (clrAt ws i) := small_set h _ _ (clrB_lt (small_getD h _))
end Go.Proofs.Qxb6601294a
