import Derived.Test.Qxb6600752aFd
namespace Go.Proofs.Qxb6600752a
open Go.RowKit Go.Maps

abbrev Rd := (Nat × Nat) × Nat × ByteArray
/-- A read holds: it reads its writer's last write of the item. -/
def rdOk (S : VS) (r : Rd) : Prop := S.rs.cnt r.1.1 r.2.2 = r.1.2
def ins (S : VS) (r : Rd) (k : Nat) : Bool := (S.wr r.2.2).testBit k && (k != r.1.1 && k != r.2.1)
def rdPair (r : Rd) : Nat × Nat := (2 ^ r.1.1, 2 ^ r.2.1)
def rdBf (bf : List Nat) (r : Rd) : List Nat := bf.set r.2.1 (bf.getD r.2.1 0 ||| 2 ^ r.1.1)
def btIn (S : VS) (r : Rd) (bt : List (List (Nat × Nat))) : Nat → List (List (Nat × Nat))
  | 0 => bt
  | k + 1 => if ins S r k = true then (btIn S r bt k).set k ((btIn S r bt k).getD k [] ++ [rdPair r]) else btIn S r bt k
theorem btIn_length (S : VS) (r : Rd) (bt : List (List (Nat × Nat))) : ∀ k, (btIn S r bt k).length = bt.length
  | 0 => rfl
  | k + 1 => by
    simp only [btIn]
    split
    · rw [List.length_set, btIn_length S r bt k]
    · exact btIn_length S r bt k
theorem btIn_at (S : VS) (r : Rd) (bt : List (List (Nat × Nat))) (x : Nat) : ∀ k, k ≤ bt.length → (btIn S r bt k).getD x [] = bt.getD x [] ++ (if x < k ∧ ins S r x = true then [rdPair r] else [])
  | 0, _ => by simp [btIn]
  | k + 1, hk => by
    have ih := btIn_at S r bt x k (by omega)
    have hl := btIn_length S r bt k
    simp only [btIn]
    by_cases hi : ins S r k = true
    · rw [if_pos hi]
      by_cases e : x = k
      · subst e
        have e1 : ((btIn S r bt x).set x ((btIn S r bt x).getD x [] ++ [rdPair r])).getD x [] = (btIn S r bt x).getD x [] ++ [rdPair r] := by simp [hl, show x < bt.length by omega]
        rw [e1, ih]
        simp [hi]
      · have e1 : ((btIn S r bt k).set k ((btIn S r bt k).getD k [] ++ [rdPair r])).getD x [] = (btIn S r bt k).getD x [] := by simp [List.getD, List.getElem?_set_ne (Ne.symm e)]
        rw [e1, ih]
        have : (x < k ∧ ins S r x = true) ↔ (x < k + 1 ∧ ins S r x = true) := ⟨fun h => ⟨by omega, h.2⟩, fun h => ⟨by omega, h.2⟩⟩
        simp only [this]
    · rw [if_neg hi, ih]
      have : (x < k ∧ ins S r x = true) ↔ (x < k + 1 ∧ ins S r x = true) := ⟨fun h => ⟨by omega, h.2⟩, fun h => ⟨by
        by_cases e : x = k
        · subst e; exact absurd h.2 hi
        · omega, h.2⟩⟩
      simp only [this]

/-- 'before' and 'between' after the reads rs. -/
def rdAll (S : VS) (n : Nat) (bf : List Nat) (bt : List (List (Nat × Nat))) (rs : List Rd) : List Nat × List (List (Nat × Nat)) := rs.foldl (fun q r => (rdBf q.1 r, btIn S r q.2 n)) (bf, bt)
theorem rdAll_snoc (S : VS) (n : Nat) (bf : List Nat) (bt : List (List (Nat × Nat))) (rs : List Rd) (r : Rd) : rdAll S n bf bt (rs ++ [r]) = (rdBf (rdAll S n bf bt rs).1 r, btIn S r (rdAll S n bf bt rs).2 n) := by simp [rdAll, List.foldl_append]
theorem rdAll_len (S : VS) (n : Nat) (bf : List Nat) (bt : List (List (Nat × Nat))) (rs : List Rd) : (rdAll S n bf bt rs).1.length = bf.length ∧ (rdAll S n bf bt rs).2.length = bt.length := by
  suffices h : ∀ (rs : List Rd) (q : List Nat × List (List (Nat × Nat))), (rs.foldl (fun q r => (rdBf q.1 r, btIn S r q.2 n)) q).1.length = q.1.length ∧ (rs.foldl (fun q r => (rdBf q.1 r, btIn S r q.2 n)) q).2.length = q.2.length from h rs (bf, bt)
  intro rs
  induction rs with
  | nil => intro q; exact ⟨rfl, rfl⟩
  | cons r rs ih =>
    intro q
    have := ih (rdBf q.1 r, btIn S r q.2 n)
    simp only [List.foldl_cons]
    rw [this.1, this.2]
    exact ⟨by simp [rdBf], btIn_length S r q.2 n⟩
/-- The bits of 'before', the lists of 'between', told whole. -/
theorem rdAll_bit (S : VS) (n : Nat) (bt : List (List (Nat × Nat))) (x y : Nat) : ∀ (rs : List Rd) (bf : List Nat), (∀ r ∈ rs, r.2.1 < bf.length) → (((rdAll S n bf bt rs).1.getD x 0).testBit y = true ↔ ((bf.getD x 0).testBit y = true ∨ ∃ r ∈ rs, r.2.1 = x ∧ r.1.1 = y)) := by
  suffices h : ∀ (rs : List Rd) (q : List Nat × List (List (Nat × Nat))), (∀ r ∈ rs, r.2.1 < q.1.length) → ((((rs.foldl (fun q r => (rdBf q.1 r, btIn S r q.2 n)) q).1).getD x 0).testBit y = true ↔ ((q.1.getD x 0).testBit y = true ∨ ∃ r ∈ rs, r.2.1 = x ∧ r.1.1 = y)) from fun rs bf hb => h rs (bf, bt) hb
  intro rs
  induction rs with
  | nil => intro q _; simp
  | cons r rs ih =>
    intro q hq
    have hr : r.2.1 < q.1.length := hq r (by simp)
    rw [List.foldl_cons, ih _ (fun r' h' => by simp only [rdBf, List.length_set]; exact hq r' (by simp [h']))]
    have e : ((rdBf q.1 r).getD x 0).testBit y = true ↔ ((q.1.getD x 0).testBit y = true ∨ (r.2.1 = x ∧ r.1.1 = y)) := by
      unfold rdBf
      rw [getD_set _ _ _ _ hr]
      by_cases e : x = r.2.1
      · subst e
        rw [if_pos rfl, Nat.testBit_or, Bool.or_eq_true, Nat.testBit_two_pow]
        simp
      · rw [if_neg e]
        simp [Ne.symm e]
    rw [e]
    simp only [List.mem_cons, exists_eq_or_imp]
    constructor
    · rintro ((h | h) | h)
      · exact .inl h
      · exact .inr (.inl h)
      · exact .inr (.inr h)
    · rintro (h | (h | h))
      · exact .inl (.inl h)
      · exact .inl (.inr h)
      · exact .inr h
theorem rdAll_bt (S : VS) (n : Nat) (bf : List Nat) (x : Nat) (hx : x < n) : ∀ (rs : List Rd) (bt : List (List (Nat × Nat))), bt.length = n → (rdAll S n bf bt rs).2.getD x [] = bt.getD x [] ++ rs.filterMap (fun r => if ins S r x = true then some (rdPair r) else none) := by
  suffices h : ∀ (rs : List Rd) (q : List Nat × List (List (Nat × Nat))), q.2.length = n → ((rs.foldl (fun q r => (rdBf q.1 r, btIn S r q.2 n)) q).2).getD x [] = q.2.getD x [] ++ rs.filterMap (fun r => if ins S r x = true then some (rdPair r) else none) from fun rs bt hb => h rs (bf, bt) hb
  intro rs
  induction rs with
  | nil => intro q _; simp
  | cons r rs ih =>
    intro q hq
    rw [List.foldl_cons, ih _ (by rw [btIn_length]; exact hq), btIn_at S r q.2 x n (by omega)]
    by_cases hi : ins S r x = true
    · simp [hi, hx]
    · simp [hi]
end Go.Proofs.Qxb6600752a
