import Derived.Test.Qxb6601294aAgree
namespace Go.Proofs.Qxb6601294a
open Go.RowKit

set_option maxHeartbeats 1000000 in
/-- The law's early ways out. -/
theorem agree_out (cap n nx : Int) (a1 : Option Addr) (L c1 : Nat) (b : Bool) (w : World) (hL : L ≤ 9223372036854775807) (hnb : n ≤ 9223372036854775807)
    (h : ¬ (1 ≤ cap ∧ 0 ≤ n ∧ n ≤ cap ∧ 0 ≤ nx ∧ nx < cap) ∨ 1024 < L ∨ ((n : Int) > (L : Int) * 64 ∨ (L : Int) ≠ (n + 63) / 64)) :
    Calls Try.prog 3 #[.int .i64 cap, .slice a1 L c1, .int .i64 n, .int .i64 nx, .bool b] w fun e w' => e = .returned (.bool true) ∧ Below w.heap.size w w' := by
  by_cases hl : (1024 : Int) < (L : Int)
  · go_enter Try.func3, Try.ntmps3
    go_wp2_with (go_at_call 11; refine (bytes11_any _ _ _ _ _ _ _ _).mono ?_; rintro e w' ⟨b, rfl, hw⟩; obtain rfl := hw.symm; clear hw)
    all_goals (go_ret; exact ⟨rfl, Below.refl _ _⟩)
  by_cases c1' : cap < 1
  · go_enter Try.func3, Try.ntmps3
    go_wp2_with (go_at_call 11; refine (bytes11_any _ _ _ _ _ _ _ _).mono ?_; rintro e w' ⟨b, rfl, hw⟩; obtain rfl := hw.symm; clear hw)
    all_goals (go_ret; exact ⟨rfl, Below.refl _ _⟩)
  have d1 : decide (cap < 1) = false := by simp; omega
  by_cases c2 : n < 0
  · go_enter Try.func3, Try.ntmps3
    go_wp2_with (go_at_call 11; refine (bytes11_any _ _ _ _ _ _ _ _).mono ?_; rintro e w' ⟨b, rfl, hw⟩; obtain rfl := hw.symm; clear hw)
    all_goals (go_ret; exact ⟨rfl, Below.refl _ _⟩)
  have d2 : decide (n < 0) = false := by simp; omega
  by_cases c3 : cap < n
  · go_enter Try.func3, Try.ntmps3
    go_wp2_with (go_at_call 11; refine (bytes11_any _ _ _ _ _ _ _ _).mono ?_; rintro e w' ⟨b, rfl, hw⟩; obtain rfl := hw.symm; clear hw)
    all_goals (go_ret; exact ⟨rfl, Below.refl _ _⟩)
  have d3 : decide (cap < n) = false := by simp; omega
  by_cases c4 : nx < 0
  · go_enter Try.func3, Try.ntmps3
    go_wp2_with (go_at_call 11; refine (bytes11_any _ _ _ _ _ _ _ _).mono ?_; rintro e w' ⟨b, rfl, hw⟩; obtain rfl := hw.symm; clear hw)
    all_goals (go_ret; exact ⟨rfl, Below.refl _ _⟩)
  have d4 : decide (nx < 0) = false := by simp; omega
  by_cases c5 : cap ≤ nx
  · go_enter Try.func3, Try.ntmps3
    go_wp2_with (go_at_call 11; refine (bytes11_any _ _ _ _ _ _ _ _).mono ?_; rintro e w' ⟨b, rfl, hw⟩; obtain rfl := hw.symm; clear hw)
    all_goals (go_ret; exact ⟨rfl, Below.refl _ _⟩)
  have d5 : decide (cap ≤ nx) = false := by simp; omega
  by_cases c6 : (L : Int) * 64 < n
  · go_enter Try.func3, Try.ntmps3
    go_wp2_with (go_at_call 11; refine (bytes11_any _ _ _ _ _ _ _ _).mono ?_; rintro e w' ⟨b, rfl, hw⟩; obtain rfl := hw.symm; clear hw)
    all_goals (go_ret; exact ⟨rfl, Below.refl _ _⟩)
  have d6 : decide ((L : Int) * 64 < n) = false := by simp; omega
  have c7 : ((L : Int) == (n + 63) / 64) = false := by simp; omega
  go_enter Try.func3, Try.ntmps3
  go_wp2_with (go_at_call 11; refine (bytes11_any _ _ _ _ _ _ _ _).mono ?_; rintro e w' ⟨b, rfl, hw⟩; obtain rfl := hw.symm; clear hw)
  all_goals (go_ret; exact ⟨rfl, Below.refl _ _⟩)
end Go.Proofs.Qxb6601294a
