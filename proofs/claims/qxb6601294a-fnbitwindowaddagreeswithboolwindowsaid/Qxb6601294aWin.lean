import Derived.Test.Qxb6601294aAdd
namespace Go.Proofs.Qxb6601294a

/-- The place that an add writes. -/
def posOf (cap n nx : Nat) : Nat := if n < cap then n else nx
theorem bit_add {ws : List Nat} {cap n nx : Nat} {b : Bool} (hl : ws.length = (n + 63) / 64) (hn : n ≤ cap) (hnx : nx < cap) (hpad : ∀ i, n ≤ i → bit ws i = false) (i : Nat) :
    bit (addWs ws cap n nx b) i = if i = posOf cap n nx then b else bit ws i := by
  unfold addWs posOf
  by_cases h1 : n < cap
  · simp only [if_pos h1]
    by_cases h2 : n % 64 = 0
    · simp only [if_pos h2]
      cases b with
      | true =>
        simp only [if_true]
        rw [bit_setAt (by simp; omega), bit_push]
      | false =>
        simp only [Bool.false_eq_true, if_false]
        rw [bit_push]
        split
        · exact hpad i (by omega)
        · rfl
    · simp only [if_neg h2]
      cases b with
      | true =>
        simp only [if_true]
        rw [bit_setAt (by omega)]
      | false =>
        simp only [Bool.false_eq_true, if_false]
        split
        · exact hpad i (by omega)
        · rfl
  · simp only [if_neg h1]
    have hx : nx / 64 < ws.length := by omega
    cases b with
    | true =>
      simp only [if_true]
      rw [bit_setAt (by rw [clrAt_length]; exact hx), bit_clrAt hx]
      split
      · rfl
      · rfl
    | false =>
      simp only [Bool.false_eq_true, if_false]
      rw [bit_clrAt hx]

/-- The window behind k adds of bs: the count, the next place, the words; place j % cap holds item j of those that are held; the rest is clear. -/
structure Inv (bs : List Bool) (cap k : Nat) (ws : List Nat) (n nx : Nat) : Prop where
  count : n = min k cap
  next : nx = if k < cap then 0 else k % cap
  len : ws.length = (n + 63) / 64
  small : Small ws
  held : ∀ j, k - n ≤ j → j < k → bit ws (j % cap) = bs.getD j false
  clear : ∀ i, n ≤ i → bit ws i = false

theorem inv_start (bs : List Bool) (cap : Nat) (h : 1 ≤ cap) : Inv bs cap 0 [] 0 0 := by
  refine ⟨by simp, by rw [if_pos (by omega)], rfl, fun x h => by simp at h, fun j _ h => by omega, fun i _ => by simp [bit]⟩
theorem Inv.nx_lt {bs : List Bool} {cap k : Nat} {ws : List Nat} {n nx : Nat} (h : Inv bs cap k ws n nx) (hc : 1 ≤ cap) : nx < cap := by
  rw [h.next]
  split
  · omega
  · exact Nat.mod_lt _ (by omega)
theorem Inv.n_le {bs : List Bool} {cap k : Nat} {ws : List Nat} {n nx : Nat} (h : Inv bs cap k ws n nx) : n ≤ cap ∧ n ≤ k := by
  rw [h.count]; omega
theorem Inv.pos {bs : List Bool} {cap k : Nat} {ws : List Nat} {n nx : Nat} (h : Inv bs cap k ws n nx) : posOf cap n nx = k % cap := by
  unfold posOf
  have h1 := h.count
  by_cases hk : k < cap
  · rw [if_pos (by omega), Nat.mod_eq_of_lt hk]; omega
  · rw [if_neg (by omega), h.next, if_neg hk]
theorem Inv.old {bs : List Bool} {cap k : Nat} {ws : List Nat} {n nx : Nat} (h : Inv bs cap k ws n nx) (hc : 1 ≤ cap) : addOld ws cap n nx = if cap ≤ k then bs.getD (k - cap) false else false := by
  unfold addOld
  have h1 := h.count
  by_cases hk : k < cap
  · rw [if_pos (by omega), if_neg (by omega)]
  · rw [if_neg (by omega), if_pos (by omega)]
    have h2 := h.held (k - cap) (by omega) (by omega)
    have h3 : (k - cap) % cap = k % cap := by
      rw [← Nat.mod_eq_sub_mod (by omega)]
    rw [h3] at h2
    rw [h.next, if_neg hk]
    exact h2
theorem mod_ne {cap j k : Nat} (h1 : j < k) (h2 : k < j + cap) : j % cap ≠ k % cap := by
  intro e
  have := Nat.sub_mod_eq_zero_of_mod_eq e.symm
  rw [Nat.mod_eq_of_lt (by omega)] at this
  omega
theorem inv_step {bs : List Bool} {cap k : Nat} {ws : List Nat} {n nx : Nat} (h : Inv bs cap k ws n nx) (hc : 1 ≤ cap) (b : Bool) (hb : b = bs.getD k false) : Inv bs cap (k + 1) (addWs ws cap n nx b) (addN cap n) (addNx cap n nx) := by
  have hcount := h.count
  have hbit := bit_add (b := b) h.len h.n_le.1 (h.nx_lt hc) h.clear
  rw [h.pos] at hbit
  have hN : addN cap n = min (k + 1) cap := by
    unfold addN; split <;> omega
  refine ⟨hN, ?_, addWs_length ws cap n nx b h.len, addWs_small cap n nx b h.small, ?_, ?_⟩
  · unfold addNx
    by_cases hk : k < cap
    · rw [if_pos (by omega), h.next, if_pos hk]
      split
      · rfl
      · have : k + 1 = cap := by omega
        rw [this, Nat.mod_self]
    · rw [if_neg (by omega), h.next, if_neg hk, if_neg (by omega), Nat.mod_add_mod]
  · intro j hj hjk
    rw [hbit]
    by_cases e : j = k
    · subst e; rw [if_pos rfl]; exact hb
    · rw [if_neg (mod_ne (by omega) (by omega))]
      exact h.held j (by omega) (by omega)
  · intro i hi
    rw [hbit]
    have hp : k % cap < addN cap n := by
      rw [hN]
      by_cases hk : k < cap
      · rw [Nat.mod_eq_of_lt hk]; omega
      · have := Nat.mod_lt k (show cap > 0 by omega)
        omega
    rw [if_neg (by omega)]
    refine h.clear i ?_
    unfold addN at hi
    split at hi <;> omega
end Go.Proofs.Qxb6601294a
