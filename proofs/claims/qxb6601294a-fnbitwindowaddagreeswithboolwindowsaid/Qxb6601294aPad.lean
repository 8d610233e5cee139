import Derived.Test.Qxb6601294aGen
import Derived.Test.Qxb6601294aWin
namespace Go.Proofs.Qxb6601294a
open Go.RowKit

theorem minInt_any (a b : Int) (w : World) : Calls Try.prog 20 #[.int .i64 a, .int .i64 b] w fun e w' => e = .returned (.int .i64 (min a b)) ∧ w = w' := by
  by_cases h : a < b
  · have e : min a b = a := by omega
    rw [e]
    go_enter Try.func20, Try.ntmps20
    go_wp2
    go_ret
    exact ⟨rfl, rfl⟩
  · have e : min a b = b := by omega
    rw [e]
    go_enter Try.func20, Try.ntmps20
    go_wp2
    go_ret
    exact ⟨rfl, rfl⟩

theorem div_cast (x k : Nat) : (x : Int) / 2 ^ k = ((x / 2 ^ k : Nat) : Int) := by
  have h : ((2 ^ k : Nat) : Int) = (2 : Int) ^ k := by simp
  rw [← h, ← Int.natCast_ediv]
theorem shr_test {x k : Nat} (hx : x < 18446744073709551616) : (bits .and .u64 ((x : Int) / 2 ^ k) 1 == 1) = x.testBit k := by
  have h1 : x / 2 ^ k < 18446744073709551616 := Nat.lt_of_le_of_lt (Nat.div_le_self _ _) hx
  have h2 : bits .and .u64 (((x / 2 ^ k : Nat) : Int)) ((1 : Nat) : Int) = ((x / 2 ^ k &&& 1 : Nat) : Int) := bits_and_u64_nat _ _ h1 (by omega)
  rw [div_cast, show (1 : Int) = ((1 : Nat) : Int) from rfl, h2, Nat.and_one_is_mod, Nat.testBit_eq_decide_div_mod_eq]
  generalize x / 2 ^ k = y
  rw [Bool.eq_iff_iff]
  simp
  omega
theorem shr_zero (x k : Nat) : ((x : Int) / 2 ^ k == 0) = decide (x / 2 ^ k = 0) := by
  rw [div_cast, Bool.eq_iff_iff]
  generalize x / 2 ^ k = y
  simp
theorem ret_bool {a b : Bool} (h : a = b) : Ending.returned (.bool a) = .returned (.bool b) := by rw [h]

set_option maxHeartbeats 400000 in
theorem bitAt_walk (b o L c i x : Nat) (w : World) (hx : w.cell? ⟨b, o + i / 64, none⟩ = some (.int .u64 (x : Int))) (hl : i / 64 < L) (hi : i ≤ 1073741824) (hxs : x < 18446744073709551616) :
    Calls Try.prog 14 #[.slice (some ⟨b, o, none⟩) L c, .int .i64 (i : Int)] w fun e w' => e = .returned (.bool (x.testBit (i % 64))) ∧ w = w' := by
  go_enter Try.func14, Try.ntmps14
  go_wp2
  go_ret
  exact ⟨ret_bool (shr_test hxs), rfl⟩

set_option maxHeartbeats 400000 in
theorem pad_walk (b o L c i x : Nat) (w : World) (hx : w.cell? ⟨b, o + i / 64, none⟩ = some (.int .u64 (x : Int))) (hl : i / 64 < L) (hi : i ≤ 1073741824) (h64 : ¬ i % 64 = 0) :
    Calls Try.prog 12 #[.slice (some ⟨b, o, none⟩) L c, .int .i64 (i : Int)] w fun e w' => e = .returned (.bool (decide (x / 2 ^ (i % 64) = 0))) ∧ w = w' := by
  go_enter Try.func12, Try.ntmps12
  go_wp2
  go_ret
  exact ⟨ret_bool (shr_zero _ _), rfl⟩

set_option maxHeartbeats 400000 in
theorem pad_even (a : Option Addr) (L c i : Nat) (w : World) (hi : i ≤ 1073741824) (h64 : i % 64 = 0) :
    Calls Try.prog 12 #[.slice a L c, .int .i64 (i : Int)] w fun e w' => e = .returned (.bool true) ∧ w = w' := by
  have h64i : ((i : Int) % 64 == 0) = true := by simp; omega
  go_enter Try.func12, Try.ntmps12
  go_wp2
  go_ret
  exact ⟨rfl, rfl⟩

/-- padClear's answer. -/
def padB (ws : List Nat) (n : Nat) : Bool := decide (n % 64 = 0) || decide (ws.getD (n / 64) 0 / 2 ^ (n % 64) = 0)
theorem padB_clear {ws : List Nat} {n : Nat} (h : ∀ i, n ≤ i → bit ws i = false) (hs : Small ws) : padB ws n = true := by
  unfold padB
  by_cases h64 : n % 64 = 0
  · simp [h64]
  · rw [Bool.or_eq_true]
    right
    rw [decide_eq_true_eq]
    apply Nat.eq_of_testBit_eq
    intro i
    rw [Nat.testBit_div_two_pow, Nat.zero_testBit]
    by_cases hi : i + n % 64 < 64
    · have := h (n / 64 * 64 + (i + n % 64)) (by omega)
      unfold bit at this
      have e1 : (n / 64 * 64 + (i + n % 64)) / 64 = n / 64 := by omega
      have e2 : (n / 64 * 64 + (i + n % 64)) % 64 = i + n % 64 := by omega
      rw [e1, e2] at this
      exact this
    · refine Nat.testBit_lt_two_pow (Nat.lt_of_lt_of_le (small_getD hs _) ?_)
      have := Nat.pow_le_pow_right (n := 2) (by omega) (show 64 ≤ i + n % 64 by omega)
      simpa using this
theorem clear_padB {ws : List Nat} {n : Nat} (hl : ws.length = (n + 63) / 64) (h : padB ws n = true) : ∀ i, n ≤ i → bit ws i = false := by
  intro i hi
  unfold bit
  by_cases h1 : i / 64 < ws.length
  · have e : i / 64 = n / 64 := by omega
    have h64 : ¬ n % 64 = 0 := by omega
    unfold padB at h
    simp only [h64, decide_false, Bool.false_or, decide_eq_true_eq] at h
    have h2 : ((ws.getD (n / 64) 0) / 2 ^ (n % 64)).testBit (i % 64 - n % 64) = false := by rw [h, Nat.zero_testBit]
    rw [Nat.testBit_div_two_pow] at h2
    rw [e]
    have e2 : i % 64 - n % 64 + n % 64 = i % 64 := by omega
    rwa [e2] at h2
  · simp [List.getD, h1]

theorem rv_U {w : World} {a : Option Addr} {c : Nat} {ws : List Nat} {v : Value} (h : Rv w v (U ws)) (he : v = .slice a ws.length c) (j : Nat) (hj : j < ws.length) : ∃ b o, a = some ⟨b, o, none⟩ ∧ w.cell? ⟨b, o + j, none⟩ = some (.int .u64 ((ws.getD j 0 : Nat) : Int)) := by
  obtain ⟨a', cap, rfl, _, _, _, hx⟩ := h
  simp only [Value.slice.injEq] at he
  obtain ⟨rfl, _, rfl⟩ := he
  rcases hx with h0 | ⟨b, o, rfl, hx⟩
  · rw [U_length] at h0; omega
  · exact ⟨b, o, rfl, hx j _ (U_at ws j hj)⟩

/-- bitAt. -/
theorem bitAt_any (a : Option Addr) (c : Nat) (ws : List Nat) (i : Nat) (w : World) (h : Rv w (.slice a ws.length c) (U ws)) (hs : Small ws) (hi : i / 64 < ws.length) (hl : i ≤ 1073741824) :
    Calls Try.prog 14 #[.slice a ws.length c, .int .i64 (i : Int)] w fun e w' => e = .returned (.bool (bit ws i)) ∧ w' = w := by
  obtain ⟨b, o, rfl, hx⟩ := rv_U h rfl (i / 64) hi
  refine (bitAt_walk b o ws.length c i _ w hx hi hl (small_getD hs _)).mono ?_
  rintro e w' ⟨rfl, rfl⟩
  exact ⟨rfl, rfl⟩
/-- padClear. -/
theorem pad_any (a : Option Addr) (c : Nat) (ws : List Nat) (n : Nat) (w : World) (h : Rv w (.slice a ws.length c) (U ws)) (hn : ws.length = (n + 63) / 64) (hl : n ≤ 1073741824) :
    Calls Try.prog 12 #[.slice a ws.length c, .int .i64 (n : Int)] w fun e w' => e = .returned (.bool (padB ws n)) ∧ w = w' := by
  by_cases h64 : n % 64 = 0
  · have e : padB ws n = true := by simp [padB, h64]
    rw [e]
    exact pad_even a ws.length c n w hl h64
  · obtain ⟨b, o, rfl, hx⟩ := rv_U h rfl (n / 64) (by omega)
    have e : padB ws n = decide (ws.getD (n / 64) 0 / 2 ^ (n % 64) = 0) := by simp [padB, h64]
    rw [e]
    exact pad_walk b o ws.length c n _ w hx (by omega) hl h64
end Go.Proofs.Qxb6601294a
