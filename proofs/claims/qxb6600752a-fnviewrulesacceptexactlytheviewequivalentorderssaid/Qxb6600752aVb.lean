import Derived.Test.Qxb6600752aVx
namespace Go.Proofs.Qxb6600752a
open Go.RowKit Go.Maps

/-- What the item s lays on 'before': that y must come before x. -/
def con (S : VS) (s : ByteArray) (x y : Nat) : Prop :=
  (∃ p, S.rs.last s = some p ∧ p.1 = x ∧ (S.wr s).testBit y = true ∧ y ≠ x) ∨ ((S.wr s).testBit x = true ∧ (S.fi s).testBit y = true ∧ y ≠ x)

def inn (bf : List Nat) (ws fi : Nat) : Nat → List Nat
  | 0 => bf
  | k + 1 => if ws.testBit k = true then (inn bf ws fi k).set k ((inn bf ws fi k).getD k 0 ||| andN fi (2 ^ k)) else inn bf ws fi k
theorem inn_length (bf : List Nat) (ws fi : Nat) : ∀ k, (inn bf ws fi k).length = bf.length
  | 0 => rfl
  | k + 1 => by
    simp only [inn]
    split
    · rw [List.length_set, inn_length bf ws fi k]
    · exact inn_length bf ws fi k
/-- Words all. -/
def Sm (bf : List Nat) : Prop := ∀ x, bf.getD x 0 < 18446744073709551616
theorem getD_set (bf : List Nat) (f v x : Nat) (h : f < bf.length) : (bf.set f v).getD x 0 = if x = f then v else bf.getD x 0 := by
  by_cases e : x = f
  · subst e; simp [h]
  · simp [e, List.getD, List.getElem?_set_ne (Ne.symm e)]
theorem sm_set {bf : List Nat} (h : Sm bf) {f v : Nat} (hf : f < bf.length) (hv : v < 18446744073709551616) : Sm (bf.set f v) := fun x => by
  rw [getD_set bf f v x hf]
  split
  · exact hv
  · exact h x
theorem inn_sm {bf : List Nat} (h : Sm bf) {ws fi : Nat} (hf : fi < 18446744073709551616) : ∀ k, k ≤ bf.length → Sm (inn bf ws fi k)
  | 0, _ => h
  | k + 1, hk => by
    simp only [inn]
    have ih := inn_sm h (ws := ws) hf k (by omega)
    split
    · exact sm_set ih (by rw [inn_length]; omega) (or_lt (ih k) (andN_lt hf))
    · exact ih
theorem inn_bit {bf : List Nat} {ws fi : Nat} (x y : Nat) (hy : y < 64) : ∀ k, k ≤ bf.length → k ≤ 64 → (((inn bf ws fi k).getD x 0).testBit y = true ↔ ((bf.getD x 0).testBit y = true ∨ (x < k ∧ ws.testBit x = true ∧ fi.testBit y = true ∧ y ≠ x)))
  | 0, _, _ => by simp [inn]
  | k + 1, hk, h64 => by
    have ih := inn_bit (bf := bf) (ws := ws) (fi := fi) x y hy k (by omega) (by omega)
    simp only [inn]
    by_cases hw : ws.testBit k = true
    · rw [if_pos hw, getD_set _ _ _ _ (by rw [inn_length]; omega)]
      by_cases e : x = k
      · subst e
        rw [if_pos rfl, Nat.testBit_or, Bool.or_eq_true, ih, andN_test _ _ _ (pow_lt64 (by omega)) hy, Nat.testBit_two_pow]
        simp only [Bool.and_eq_true, Bool.not_eq_true', decide_eq_false_iff_not]
        constructor
        · rintro ((h | h) | h)
          · exact .inl h
          · omega
          · exact .inr ⟨by omega, hw, h.1, fun e => h.2 e.symm⟩
        · rintro (h | ⟨_, _, h1, h2⟩)
          · exact .inl (.inl h)
          · exact .inr ⟨h1, fun e => h2 e.symm⟩
      · rw [if_neg e, ih]
        constructor
        · rintro (h | ⟨h, h'⟩)
          · exact .inl h
          · exact .inr ⟨by omega, h'⟩
        · rintro (h | ⟨h, h'⟩)
          · exact .inl h
          · exact .inr ⟨by omega, h'⟩
    · rw [if_neg hw, ih]
      constructor
      · rintro (h | ⟨h, h'⟩)
        · exact .inl h
        · exact .inr ⟨by omega, h'⟩
      · rintro (h | ⟨h, h1, h'⟩)
        · exact .inl h
        · refine .inr ⟨?_, h1, h'⟩
          by_cases e : x = k
          · subst e; exact absurd h1 hw
          · omega

/-- A round of the range: the item s, its last writer f. -/
def rnd (S : VS) (bf : List Nat) (s : ByteArray) (f n : Nat) : List Nat := inn (bf.set f (bf.getD f 0 ||| andN (S.wr s) (2 ^ f))) (S.wr s) (S.fi s) n
theorem rnd_bit {S : VS} {bf : List Nat} {s : ByteArray} {p : Nat × Nat} {n : Nat} (hp : S.rs.last s = some p) (hl : bf.length = n) (hn : n ≤ 64) (hf : p.1 < n) (x y : Nat) (hx : x < n) (hy : y < 64) :
    ((rnd S bf s p.1 n).getD x 0).testBit y = true ↔ ((bf.getD x 0).testBit y = true ∨ con S s x y) := by
  unfold rnd
  rw [inn_bit x y hy n (by rw [List.length_set]; omega) hn, getD_set _ _ _ _ (by omega)]
  unfold con
  by_cases e : x = p.1
  · subst e
    rw [if_pos rfl, Nat.testBit_or, Bool.or_eq_true, andN_test _ _ _ (pow_lt64 (by omega)) hy, Nat.testBit_two_pow]
    simp only [Bool.and_eq_true, Bool.not_eq_true', decide_eq_false_iff_not]
    constructor
    · rintro ((h | h) | h)
      · exact .inl h
      · exact .inr (.inl ⟨p, hp, rfl, h.1, fun e => h.2 e.symm⟩)
      · exact .inr (.inr h.2)
    · rintro (h | (⟨q, hq, h1, h2, h3⟩ | h))
      · exact .inl (.inl h)
      · exact .inl (.inr ⟨h2, fun e => h3 e.symm⟩)
      · exact .inr ⟨hx, h⟩
  · rw [if_neg e]
    constructor
    · rintro (h | h)
      · exact .inl h
      · exact .inr (.inr h.2)
    · rintro (h | (⟨q, hq, h1, h2, h3⟩ | h))
      · exact .inl h
      · rw [hp] at hq
        cases hq
        exact absurd h1.symm e
      · exact .inr ⟨hx, h⟩
theorem rnd_sm {S : VS} {bf : List Nat} {s : ByteArray} {f n : Nat} (h : Sm bf) (hl : bf.length = n) (hf : f < n) (hw : S.wr s < 18446744073709551616) (hfi : S.fi s < 18446744073709551616) : Sm (rnd S bf s f n) :=
  inn_sm (sm_set h (by omega) (or_lt (h f) (andN_lt hw))) hfi n (by rw [List.length_set]; omega)
theorem rnd_length {S : VS} {bf : List Nat} {s : ByteArray} {f n : Nat} (hl : bf.length = n) : (rnd S bf s f n).length = n := by
  unfold rnd
  rw [inn_length, List.length_set]
  exact hl

/-- What 'before' holds while 'left' are still to come. -/
def Good (S : VS) (n : Nat) (bf : List Nat) (left : Lit → Bool) : Prop :=
  bf.length = n ∧ Sm bf ∧ ∀ x y, x < n → y < 64 → ((bf.getD x 0).testBit y = true ↔ ∃ s : ByteArray, s.size ≤ maxLen ∧ S.wr s ≠ 0 ∧ left (.string s.data.toList) = false ∧ con S s x y)
theorem good_start {S : VS} {n : Nat} {D : DataW Value} (h : Dw D S.wr) : Good S n (List.replicate n 0) (Maps.has D) := by
  refine ⟨by simp, fun x => ?_, fun x y hx hy => ?_⟩
  · by_cases hx : x < n <;> simp [List.getD, hx]
  · have : (List.replicate n 0).getD x 0 = 0 := by simp [List.getD, hx]
    rw [this]
    simp only [Nat.zero_testBit]
    constructor
    · intro h
      cases h
    · rintro ⟨s, hs, h0, hl, _⟩
      rw [(h s hs).2] at hl
      simp [h0] at hl
theorem good_step {S : VS} {n : Nat} {bf : List Nat} {left : Lit → Bool} (h : Good S n bf left) {s : ByteArray} (hs : s.size ≤ maxLen) (h0 : S.wr s ≠ 0) {p : Nat × Nat} (hp : S.rs.last s = some p) (hn : n ≤ 64) (hf : p.1 < n) (hw : S.wr s < 18446744073709551616) (hfi : S.fi s < 18446744073709551616) :
    Good S n (rnd S bf s p.1 n) (fun z => left z && !z.sameKey (.string s.data.toList)) := by
  obtain ⟨h1, h2, h3⟩ := h
  refine ⟨rnd_length h1, rnd_sm h2 h1 hf hw hfi, fun x y hx hy => ?_⟩
  rw [rnd_bit hp h1 hn hf x y hx hy, h3 x y hx hy]
  constructor
  · rintro (⟨t, a, b, c, d⟩ | c)
    · exact ⟨t, a, b, by simp [c], d⟩
    · exact ⟨s, hs, h0, by simp [Lit.sameKey], c⟩
  · rintro ⟨t, a, b, c, d⟩
    simp only [Bool.and_eq_false_iff, Bool.not_eq_false'] at c
    rcases c with c | c
    · exact .inl ⟨t, a, b, c, d⟩
    · right
      simp only [Lit.sameKey, beq_iff_eq] at c
      have : t = s := by
        cases t with
        | mk td => cases s with
          | mk sd =>
            congr 1
            exact Array.ext' c
      rw [← this]
      exact d
end Go.Proofs.Qxb6600752a
