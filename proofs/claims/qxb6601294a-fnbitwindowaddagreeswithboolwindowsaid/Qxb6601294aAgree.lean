import Derived.Test.Qxb6601294aBoolWin
import Derived.Test.Qxb6601294aPad
namespace Go.Proofs.Qxb6601294a
open Go.RowKit

set_option maxHeartbeats 400000 in
theorem cloneU64_some (x : Addr) (cap : Nat) (ws : List Nat) (w : World) (hl : ws.length ≤ 1048576) (hx : ws.length = 0 ∨ ∃ b o, x = ⟨b, o, none⟩ ∧ ∀ i u, (U ws)[i]? = some u → w.cell? ⟨b, o + i, none⟩ = some u) :
    Calls Try.prog 13 #[.slice (some x) ws.length cap] w fun e w' => ∃ v', e = .returned v' ∧ w'.ownsRow w.heap.size 38 1 v' ws.length (U ws) ∧ w.grownBy w' none := by
  have q22 : ∀ (w : World) (a : Option Addr) (n c n' c' : Nat), (binOp .eql 22 (.slice a n c) (.slice none n' c')).run Try.prog w = .ok (.bool a.isNone) w := fun w a n c n' c' => Lib.run_eql_slice_nil w _ _ a n c n' c' Try.underlying22
  obtain ⟨i0, hi, hz0, hz1, hz2⟩ := info_parts info38
  go_enter Try.func13, Try.ntmps13
  go_wp2_with (at_make; refine wpList_make_full _ rfl _ _ 22 rfl w.heap.size 38 i0 (.int .u64 0) 1 Try.underlying22 hi hz0 hz1 _ _ _ _ ws.length rfl rfl rfl rfl ?b1 ?b2 ?b3 ?_)
  case b1 => rw [hz2]; omega
  case b2 => unfold maxLen; omega
  case b3 => exact Nat.le_refl _
  intro w0 hown0 hgrow0
  go_wp2
  go_loopw [4] (fun i wr => ∃ k : Nat, k ≤ ws.length ∧ i = .int .i64 k ∧ wr.ownsRow w.heap.size 38 1 (.slice (some ⟨w.heap.size, 0, none⟩) ws.length ws.length) ws.length (mixV (.int .u64 0) (U ws) k) ∧ w.grownBy wr none) (fun i _ => ws.length - (intOf i).toNat)
  case atStart => exact ⟨0, Nat.zero_le _, rfl, by rw [mixV_zero, U_length]; simpa [toList_madeCells_one, Value.cells] using hown0, hgrow0⟩
  case round =>
    obtain ⟨k, hk, rfl, hown, hg⟩ := hrel
    by_cases hlt : k < ws.length
    · rcases hx with h0 | ⟨b, o, rfl, hc⟩
      · omega
      have hkm : k < (U ws).length := by rw [U_length]; exact hlt
      have hcell := grownBy_cell hg (hc k _ (U_at ws k hlt))
      have hdst : wr.cell? ⟨w.heap.size, k, none⟩ = (mixV (.int .u64 0) (U ws) k)[k]? := hown.cellAt k (by omega)
      rw [mixV_at _ _ _ hkm] at hdst
      have hfz := hown.frozenAt k
      have R := hown.stored k (.int .u64 ((ws.getD k 0 : Nat) : Int))
      have e : Value.int .u64 ((ws.getD k 0 : Nat) : Int) = (U ws)[k] := by
        have := U_at ws k hlt
        rw [List.getElem?_eq_getElem hkm] at this
        exact (Option.some.inj this).symm
      rw [e, mixV_step _ _ _ hkm, ← e] at R
      clear e
      generalize ws.getD k 0 = z at hcell R
      have HR : Hid (_ ∧ _) := R
      have hz : w.heap.size < wr.heap.size := (hown.lt _ rfl).2
      clear R hc
      go_wp2
      go_roundw
      case rel => exact ⟨k + 1, by omega, by go_num, HR.out.1, grownBy_trans hg HR.out.2 (.inr fun j h => by cases h; exact Nat.le_refl _)⟩
      case measure => simp [intOf]; omega
    · go_wp2
      go_ret
      have : k = (U ws).length := by rw [U_length]; omega
      subst this
      rw [mixV_end] at hown
      exact ⟨_, rfl, hown, hg⟩

set_option maxHeartbeats 400000 in
theorem cloneU64_nil (w : World) : Calls Try.prog 13 #[.slice none 0 0] w fun e w' => e = .returned (.slice none 0 0) ∧ w' = w := by
  have q22 : ∀ (w : World) (a : Option Addr) (n c n' c' : Nat), (binOp .eql 22 (.slice a n c) (.slice none n' c')).run Try.prog w = .ok (.bool a.isNone) w := fun w a n c n' c' => Lib.run_eql_slice_nil w _ _ a n c n' c' Try.underlying22
  go_enter Try.func13, Try.ntmps13
  go_wp2
  go_ret
  exact ⟨rfl, rfl⟩

theorem cloneU64_any (v : Value) (ws : List Nat) (w : World) (h : Rv w v (U ws)) (hl : ws.length ≤ 1048576) :
    Calls Try.prog 13 #[v] w fun e w' => ∃ v', e = .returned v' ∧ w'.ownsRow w.heap.size 38 1 v' ws.length (U ws) ∧ w.grownBy w' none := by
  obtain ⟨a, cap, rfl, hc, hm, hn, hx⟩ := h
  rw [U_length] at hc hx ⊢
  cases a with
  | none =>
    obtain rfl := hn rfl
    obtain rfl : ws = [] := List.eq_nil_of_length_eq_zero (by omega)
    refine (cloneU64_nil w).mono ?_
    rintro e w' ⟨rfl, rfl⟩
    exact ⟨_, rfl, World.ownsRow_nil _ _ _ _, World.grownBy.refl _ _⟩
  | some x => exact cloneU64_some x cap ws w hl (hx.elim .inl fun ⟨b, o, h1, h2⟩ => .inr ⟨b, o, by simpa using h1, h2⟩)

set_option maxHeartbeats 400000 in
theorem bytes11_any (a0 : Int) (a1 : Option Addr) (len cap : Nat) (a2 a3 : Int) (b : Bool) (w : World) : Calls Try.prog 11 #[.int .i64 a0, .slice a1 len cap, .int .i64 a2, .int .i64 a3, .bool b] w fun e w' => ∃ b, e = .returned (.bool b) ∧ w' = w := by
  go_enter Try.func11, Try.ntmps11
  go_wp2
  all_goals
    go_ret
    exact ⟨_, rfl, rfl⟩

/-- The first n bits of the words. -/
def bitsL (ws : List Nat) (n : Nat) : List Bool := (List.range n).map (bit ws)
theorem bitsL_length (ws : List Nat) (n : Nat) : (bitsL ws n).length = n := by simp [bitsL]
theorem bitsL_at (ws : List Nat) (n i : Nat) (h : i < n) : (bitsL ws n).getD i false = bit ws i := by simp [bitsL, List.getD, h]

/-- Behind one add the two windows agree, place by place. -/
theorem agree_at {ws : List Nat} {cap n nx : Nat} {b : Bool} (hl : ws.length = (n + 63) / 64) (hn : n ≤ cap) (hnx : nx < cap) (hpad : ∀ i, n ≤ i → bit ws i = false) (i : Nat) (hi : i < addN cap n) :
    bit (addWs ws cap n nx b) i = (wRing (bitsL ws n) cap nx b).getD i false := by
  rw [bit_add hl hn hnx hpad]
  unfold wRing posOf
  unfold addN at hi
  rw [bitsL_length]
  by_cases h : n < cap
  · simp only [if_pos h] at hi ⊢
    by_cases hin : i = n
    · subst hin
      rw [if_pos rfl]
      simp [List.getD, bitsL_length]
    · rw [if_neg hin]
      have h2 : i < n := by omega
      rw [← bitsL_at ws n i h2]
      simp [List.getD, List.getElem?_append, bitsL_length, h2]
  · simp only [if_neg h] at hi ⊢
    by_cases hin : i = nx
    · subst hin
      rw [if_pos rfl]
      simp [List.getD, bitsL_length, hi]
    · rw [if_neg hin, ← bitsL_at ws n i hi]
      simp only [List.getD, List.getElem?_set, if_neg (fun e => hin (Eq.symm e))]
theorem agree_clear {ws : List Nat} {cap n nx : Nat} {b : Bool} (hl : ws.length = (n + 63) / 64) (hn : n ≤ cap) (hnx : nx < cap) (hpad : ∀ i, n ≤ i → bit ws i = false) (i : Nat) (hi : addN cap n ≤ i) : bit (addWs ws cap n nx b) i = false := by
  rw [bit_add hl hn hnx hpad]
  unfold posOf
  unfold addN at hi
  by_cases h : n < cap
  · simp only [if_pos h] at hi ⊢
    rw [if_neg (by omega)]
    exact hpad i (by omega)
  · simp only [if_neg h] at hi ⊢
    rw [if_neg (by omega)]
    exact hpad i hi
theorem wRing_length (ws : List Nat) (cap n nx : Nat) (b : Bool) : (wRing (bitsL ws n) cap nx b).length = addN cap n := by
  unfold wRing addN
  rw [bitsL_length]
  split <;> simp [bitsL_length]
theorem agree_old (ws : List Nat) (cap n nx : Nat) (hn : n ≤ cap) (hnx : nx < cap) : wOld (bitsL ws n) cap nx = addOld ws cap n nx := by
  unfold wOld addOld
  rw [bitsL_length]
  split
  · rfl
  · exact bitsL_at ws n nx (by omega)
theorem agree_next (ws : List Nat) (cap n nx : Nat) : wNx (bitsL ws n) cap nx = addNx cap n nx := by
  unfold wNx addNx
  rw [bitsL_length]
end Go.Proofs.Qxb6601294a
