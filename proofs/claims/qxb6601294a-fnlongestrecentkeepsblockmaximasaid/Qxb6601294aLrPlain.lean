import Derived.Test.Qxb6601294aZlr
namespace Go.Proofs.Qxb6601294a
open Go.RowKit

/-- p is not above m. -/
def le2 (p m : Int × Int) : Prop := ltB m p = false
theorem le2_iff (p m : Int × Int) : le2 p m ↔ ¬ (m.1 < p.1 ∨ (m.1 = p.1 ∧ m.2 < p.2)) := by
  have h := ltB_iff m p
  unfold ltP at h
  unfold le2
  rw [← h]
  simp
theorem le2_refl (p : Int × Int) : le2 p p := by rw [le2_iff]; omega
theorem le2_trans {p q m : Int × Int} (h : le2 p q) (g : le2 q m) : le2 p m := by rw [le2_iff] at *; omega
theorem le2_anti {p m : Int × Int} (h : le2 p m) (g : le2 m p) : p = m := by
  rw [le2_iff] at *
  exact Prod.ext (by omega) (by omega)
theorem le2_of_lt {p m : Int × Int} (h : ltB p m = true) : le2 p m := by
  rw [le2_iff]
  rw [ltB_iff] at h
  unfold ltP at h
  omega
/-- The greater of two, as the loops keep it. -/
def up (m p : Int × Int) : Int × Int := if ltB m p then p else m
theorem up_left (m p : Int × Int) : le2 m (up m p) := by
  unfold up
  split
  · next h => exact le2_of_lt h
  · exact le2_refl m
theorem up_right (m p : Int × Int) : le2 p (up m p) := by
  unfold up
  split
  · exact le2_refl p
  · next h => simpa [le2] using h
theorem up_or (m p : Int × Int) : up m p = m ∨ up m p = p := by unfold up; split <;> simp

theorem maxGo_snoc (ps : List (Int × Int)) : ∀ (k i : Nat) (m : Int × Int), maxGo ps i m (k + 1) = up (maxGo ps i m k) (ps.getD (i + k) (0, 0))
  | 0, i, m => by simp [maxGo, up]
  | k + 1, i, m => by
    have := maxGo_snoc ps k (i + 1) (if ltB m (ps.getD i (0, 0)) then ps.getD i (0, 0) else m)
    rw [maxGo, this, maxGo]
    rw [show i + 1 + k = i + (k + 1) by omega]
theorem maxOf_one (ps : List (Int × Int)) (f : Nat) : maxOf ps f (f + 1) = ps.getD f (0, 0) := by simp [maxOf, maxGo]
theorem maxOf_snoc (ps : List (Int × Int)) (f t : Nat) (h : f < t) : maxOf ps f (t + 1) = up (maxOf ps f t) (ps.getD t (0, 0)) := by
  unfold maxOf
  rw [show t + 1 - (f + 1) = (t - (f + 1)) + 1 by omega, maxGo_snoc, show f + 1 + (t - (f + 1)) = t by omega]
theorem maxOf_in (ps : List (Int × Int)) (f : Nat) : ∀ n, ∃ i, f ≤ i ∧ i < f + (n + 1) ∧ maxOf ps f (f + (n + 1)) = ps.getD i (0, 0)
  | 0 => ⟨f, Nat.le_refl _, by omega, maxOf_one ps f⟩
  | n + 1 => by
    obtain ⟨i, h1, h2, h3⟩ := maxOf_in ps f n
    rw [show f + (n + 1 + 1) = (f + (n + 1)) + 1 by omega, maxOf_snoc _ _ _ (by omega)]
    rcases up_or (maxOf ps f (f + (n + 1))) (ps.getD (f + (n + 1)) (0, 0)) with e | e
    · exact ⟨i, h1, by omega, e.trans h3⟩
    · exact ⟨f + (n + 1), by omega, by omega, e⟩
theorem maxOf_ge (ps : List (Int × Int)) (f : Nat) : ∀ n i, f ≤ i → i < f + (n + 1) → le2 (ps.getD i (0, 0)) (maxOf ps f (f + (n + 1)))
  | 0, i, h1, h2 => by
    obtain rfl : i = f := by omega
    rw [Nat.zero_add, maxOf_one]
    exact le2_refl _
  | n + 1, i, h1, h2 => by
    rw [show f + (n + 1 + 1) = (f + (n + 1)) + 1 by omega, maxOf_snoc _ _ _ (by omega)]
    by_cases h : i < f + (n + 1)
    · exact le2_trans (maxOf_ge ps f n i h1 h) (up_left _ _)
    · obtain rfl : i = f + (n + 1) := by omega
      exact up_right _ _
theorem maxOf_mem (ps : List (Int × Int)) (f t : Nat) (h : f < t) : ∃ i, f ≤ i ∧ i < t ∧ maxOf ps f t = ps.getD i (0, 0) := by
  have := maxOf_in ps f (t - f - 1)
  rw [show f + (t - f - 1 + 1) = t by omega] at this
  exact this
theorem maxOf_le (ps : List (Int × Int)) (f t i : Nat) (h1 : f ≤ i) (h2 : i < t) : le2 (ps.getD i (0, 0)) (maxOf ps f t) := by
  have := maxOf_ge ps f (t - f - 1) i h1 (by omega)
  rw [show f + (t - f - 1 + 1) = t by omega] at this
  exact this

theorem ringMax_or : ∀ (ps : List (Int × Int)) (m : Int × Int), ringMax ps m = m ∨ ringMax ps m ∈ ps
  | [], m => .inl rfl
  | p :: ps, m => by
    show ringMax ps (up m p) = m ∨ ringMax ps (up m p) ∈ p :: ps
    rcases ringMax_or ps (up m p) with e | e
    · rw [e]
      rcases up_or m p with h | h
      · exact .inl h
      · right; rw [h]; simp
    · exact .inr (List.mem_cons_of_mem _ e)
theorem ringMax_ge : ∀ (ps : List (Int × Int)) (m : Int × Int), le2 m (ringMax ps m) ∧ ∀ p, p ∈ ps → le2 p (ringMax ps m)
  | [], m => ⟨le2_refl m, fun p h => by cases h⟩
  | p :: ps, m => by
    obtain ⟨h1, h2⟩ := ringMax_ge ps (up m p)
    refine ⟨le2_trans (up_left m p) h1, fun q hq => ?_⟩
    rcases List.mem_cons.1 hq with rfl | hq
    · exact le2_trans (up_right m q) h1
    · exact h2 q hq

/-- What the longestRecent holds after k samples. -/
structure LInv (xs : List (Int × Int)) (sz cap k : Nat) (ring : List (Int × Int)) (nx : Nat) (cur : Int × Int) (fl : Nat) : Prop where
  ifl : fl = k % sz
  ilen : ring.length = min (k / sz) cap
  inx : nx = if k / sz < cap then 0 else (k / sz) % cap
  iring : ∀ b, k / sz ≤ b + cap → b < k / sz → ring.getD (b % cap) (0, 0) = maxOf xs (b * sz) ((b + 1) * sz)
  icur : k % sz ≠ 0 → cur = maxOf xs (k / sz * sz) k
  ilast : k % sz = 0 → k ≠ 0 → cur = maxOf xs ((k / sz - 1) * sz) (k / sz * sz)

theorem div_next (k sz : Nat) (h : 0 < sz) : (k % sz + 1 = sz → (k + 1) / sz = k / sz + 1 ∧ (k + 1) % sz = 0) ∧ (k % sz + 1 ≠ sz → (k + 1) / sz = k / sz ∧ (k + 1) % sz = k % sz + 1) := by
  have e := Nat.div_add_mod k sz
  have l := Nat.mod_lt k h
  constructor
  · intro h1
    have : k + 1 = sz * (k / sz + 1) := by rw [Nat.mul_add]; omega
    rw [this]
    exact ⟨Nat.mul_div_cancel_left _ h, Nat.mul_mod_right _ _⟩
  · intro h1
    have : k + 1 = (k % sz + 1) + sz * (k / sz) := by omega
    constructor
    · conv => lhs; rw [this]
      rw [Nat.add_mul_div_left _ _ h, Nat.div_eq_of_lt (by omega)]; omega
    · conv => lhs; rw [this]
      rw [Nat.add_mul_mod_self_left, Nat.mod_eq_of_lt (by omega)]

theorem LInv.zero (xs : List (Int × Int)) (sz cap : Nat) (hc : 0 < cap) : LInv xs sz cap 0 [] 0 (0, 0) 0 :=
  ⟨by simp, by simp, by simp [hc], fun b _ h => by simp at h, fun h => by simp at h, fun _ h => absurd rfl h⟩

theorem cur_next {xs : List (Int × Int)} {sz cap k : Nat} {ring : List (Int × Int)} {nx : Nat} {cur : Int × Int} {fl : Nat} (h : LInv xs sz cap k ring nx cur fl) : curOf fl cur (xs.getD k (0, 0)) = maxOf xs (k / sz * sz) (k + 1) := by
  have e := Nat.div_add_mod k sz
  rw [Nat.mul_comm] at e
  unfold curOf guardB
  rw [h.ifl]
  by_cases h0 : k % sz = 0
  · have : k / sz * sz = k := by omega
    rw [this, maxOf_one, h0]
    simp
  · rw [maxOf_snoc _ _ _ (by omega), ← h.icur h0]
    simp [h0, up]

theorem LInv.next {xs : List (Int × Int)} {sz cap k : Nat} {ring : List (Int × Int)} {nx : Nat} {cur : Int × Int} {fl : Nat} (h : LInv xs sz cap k ring nx cur fl) (hs : 0 < sz) (hc : 0 < cap) :
    LInv xs sz cap (k + 1) (lrRing sz cap ring nx cur fl (xs.getD k (0, 0))) (lrNx sz cap ring nx fl) (curOf fl cur (xs.getD k (0, 0))) (lrFl sz fl) := by
  have hcu := cur_next h
  have hlen := h.ilen
  have hnx := h.inx
  have e := Nat.div_add_mod k sz
  rw [Nat.mul_comm] at e
  obtain ⟨d1, d2⟩ := div_next k sz hs
  have hfl := h.ifl
  unfold lrRing lrNx lrFl
  by_cases hf : fl + 1 = sz
  · obtain ⟨q1, q2⟩ := d1 (by omega)
    rw [if_pos hf, if_pos hf, if_pos hf]
    have hk1 : k + 1 = (k / sz + 1) * sz := by rw [Nat.add_mul]; omega
    have hcl : curOf fl cur (xs.getD k (0, 0)) = maxOf xs (k / sz * sz) ((k / sz + 1) * sz) := by rw [hcu, hk1]
    generalize curOf fl cur (xs.getD k (0, 0)) = C at hcl hcu
    refine ⟨by rw [q2], ?_, ?_, ?_, fun h0 => absurd q2 h0, fun _ _ => ?_⟩
    · unfold pRing
      rw [q1]
      split
      · simp; omega
      · simp; omega
    · unfold pNx
      rw [q1]
      by_cases hr : ring.length < cap
      · rw [if_pos hr, hnx, if_pos (by omega)]
        split
        · rfl
        · rw [show k / sz + 1 = cap by omega, Nat.mod_self]
      · rw [if_neg hr, if_neg (by omega), hnx, if_neg (by omega), Nat.mod_add_mod]
    · rw [q1]
      intro b hb1 hb2
      unfold pRing
      by_cases hr : ring.length < cap
      · have hbc : b % cap = b := Nat.mod_eq_of_lt (by omega)
        rw [if_pos hr, hbc]
        by_cases hbq : b < k / sz
        · have := h.iring b (by omega) hbq
          rw [hbc] at this
          rw [← this]
          simp only [List.getD]
          rw [List.getElem?_append_left (by omega)]
        · obtain rfl : b = k / sz := by omega
          have : ring.length = k / sz := by omega
          simp only [List.getD]
          rw [← this, List.getElem?_concat_length, Option.getD_some, this]
          exact hcl
      · rw [if_neg hr, hnx, if_neg (by omega)]
        have hml : k / sz % cap < ring.length := by have := Nat.mod_lt (k / sz) hc; omega
        by_cases hbq : b < k / sz
        · have hne : k / sz % cap ≠ b % cap := by
            intro he
            have x1 := Nat.div_add_mod (k / sz) cap
            have x2 := Nat.div_add_mod b cap
            have x3 : cap * (k / sz / cap) - cap * (b / cap) = k / sz - b := by omega
            rw [← Nat.mul_sub] at x3
            have x4 : 0 < k / sz / cap - b / cap := by
              apply Nat.pos_of_ne_zero
              intro h0
              rw [h0] at x3
              omega
            have := Nat.le_mul_of_pos_right cap x4
            omega
          have := h.iring b (by omega) hbq
          rw [← this]
          simp only [List.getD]
          rw [List.getElem?_set_ne hne]
        · obtain rfl : b = k / sz := by omega
          simp only [List.getD]
          rw [List.getElem?_set_self hml, Option.getD_some]
          exact hcl
    · rw [q1, show k / sz + 1 - 1 = k / sz by omega]
      exact hcl
  · obtain ⟨q1, q2⟩ := d2 (by omega)
    rw [if_neg hf, if_neg hf, if_neg hf]
    refine ⟨by rw [q2, hfl], by rw [q1]; exact hlen, by rw [q1]; exact hnx, by rw [q1]; exact h.iring, fun _ => by rw [q1]; exact hcu, fun h0 => by omega⟩

theorem LInv.nxlt {xs : List (Int × Int)} {sz cap k : Nat} {ring : List (Int × Int)} {nx : Nat} {cur : Int × Int} {fl : Nat} (h : LInv xs sz cap k ring nx cur fl) (hc : 0 < cap) : nx < cap := by
  rw [h.inx]
  split
  · exact hc
  · exact Nat.mod_lt _ hc
theorem LInv.fllt {xs : List (Int × Int)} {sz cap k : Nat} {ring : List (Int × Int)} {nx : Nat} {cur : Int × Int} {fl : Nat} (h : LInv xs sz cap k ring nx cur fl) (hs : 0 < sz) : fl < sz := by
  rw [h.ifl]
  exact Nat.mod_lt _ hs

/-- The greatest of the ring and current is the greatest of the span. -/
theorem LInv.longest {xs : List (Int × Int)} {sz cap k : Nat} {ring : List (Int × Int)} {nx : Nat} {cur : Int × Int} {fl : Nat} (h : LInv xs sz cap k ring nx cur fl) (hs : 0 < sz) (hc : 0 < cap) (hk : 0 < k) : ringMax ring cur = maxOf xs ((k / sz - min (k / sz) cap) * sz) k := by
  have e := Nat.div_add_mod k sz
  rw [Nat.mul_comm] at e
  have hml := Nat.mod_lt k hs
  obtain ⟨u, hu⟩ : ∃ u, min (k / sz) cap = u := ⟨_, rfl⟩
  have hlen := h.ilen
  rw [hu] at hlen ⊢
  obtain ⟨q, hq⟩ : ∃ q, k / sz = q := ⟨_, rfl⟩
  have hring := h.iring
  have hcur := h.icur
  have hlast := h.ilast
  rw [hq] at hu e hring hcur hlast ⊢
  have hsub : (q - u) * sz ≤ q * sz := Nat.mul_le_mul_right _ (by omega)
  have hfk : (q - u) * sz < k := by
    by_cases hr : k % sz = 0
    · have hq0 : q ≠ 0 := by intro h0; subst h0; simp at e; omega
      have : (q - u + 1) * sz ≤ q * sz := Nat.mul_le_mul_right _ (by omega)
      rw [Nat.add_mul] at this
      omega
    · omega
  have hblk : ∀ b, b < q → q ≤ b + u → (q - u) * sz ≤ b * sz ∧ (b + 1) * sz ≤ k ∧ b * sz < (b + 1) * sz := fun b h1 h2 => by
    have a1 : (q - u) * sz ≤ b * sz := Nat.mul_le_mul_right _ (by omega)
    have a2 : (b + 1) * sz ≤ q * sz := Nat.mul_le_mul_right _ (by omega)
    have a3 : b * sz < (b + 1) * sz := by rw [Nat.add_mul]; omega
    omega
  have hcin : ∃ i, (q - u) * sz ≤ i ∧ i < k ∧ cur = xs.getD i (0, 0) := by
    by_cases hr : k % sz = 0
    · have hq0 : q ≠ 0 := by intro h0; subst h0; simp at e; omega
      obtain ⟨a1, a2, a3⟩ := hblk (q - 1) (by omega) (by omega)
      rw [show q - 1 + 1 = q by omega] at a2 a3
      obtain ⟨i, i1, i2, i3⟩ := maxOf_mem xs ((q - 1) * sz) (q * sz) a3
      exact ⟨i, by omega, by omega, (hlast hr (by omega)).trans i3⟩
    · obtain ⟨i, i1, i2, i3⟩ := maxOf_mem xs (q * sz) k (by omega)
      exact ⟨i, by omega, i2, (hcur hr).trans i3⟩
  have hin : ∃ i, (q - u) * sz ≤ i ∧ i < k ∧ ringMax ring cur = xs.getD i (0, 0) := by
    rcases ringMax_or ring cur with e1 | e1
    · rw [e1]; exact hcin
    · obtain ⟨j, hj, ej⟩ := List.mem_iff_getElem.1 e1
      have x1 := Nat.div_add_mod (q - 1 - j) cap
      have x2 := Nat.mod_lt (q - 1 - j) hc
      obtain ⟨d, hd⟩ : ∃ d, cap * ((q - 1 - j) / cap) = d := ⟨_, rfl⟩
      have hm : (j + cap * ((q - 1 - j) / cap)) % cap = j := by rw [Nat.add_mul_mod_self_left]; exact Nat.mod_eq_of_lt (by omega)
      rw [hd] at x1 hm
      have hb1 : j + d < q := by omega
      have hb2 : q ≤ j + d + u := by
        by_cases hqc : q ≤ cap
        · have : d = 0 := by
            rw [← hd]
            have : (q - 1 - j) / cap = 0 := Nat.div_eq_of_lt (by omega)
            rw [this]; simp
          omega
        · omega
      have hR := hring (j + d) (by omega) hb1
      rw [hm] at hR
      have eg : ring.getD j (0, 0) = ring[j] := by simp [List.getD, List.getElem?_eq_getElem hj]
      rw [eg, ej] at hR
      obtain ⟨a1, a2, a3⟩ := hblk (j + d) hb1 hb2
      obtain ⟨i, i1, i2, i3⟩ := maxOf_mem xs ((j + d) * sz) ((j + d + 1) * sz) a3
      exact ⟨i, by omega, by omega, hR.trans i3⟩
  have hge : ∀ i, (q - u) * sz ≤ i → i < k → le2 (xs.getD i (0, 0)) (ringMax ring cur) := by
    intro i i1 i2
    obtain ⟨g1, g2⟩ := ringMax_ge ring cur
    by_cases hiq : i < q * sz
    · have y1 := Nat.div_add_mod i sz
      rw [Nat.mul_comm] at y1
      have y2 := Nat.mod_lt i hs
      obtain ⟨b, hb⟩ : ∃ b, i / sz = b := ⟨_, rfl⟩
      rw [hb] at y1
      have hbq : b < q := by
        apply Nat.lt_of_not_le
        intro hle
        have := Nat.mul_le_mul_right sz hle
        omega
      have hbu : q ≤ b + u := by
        apply Nat.le_of_not_lt
        intro hlt
        have : (b + 1) * sz ≤ (q - u) * sz := Nat.mul_le_mul_right _ (by omega)
        rw [Nat.add_mul] at this
        omega
      have hR := hring b (by omega) hbq
      have hl : b % cap < ring.length := by
        by_cases hqc : q ≤ cap
        · rw [Nat.mod_eq_of_lt (by omega)]; omega
        · have := Nat.mod_lt b hc; omega
      have eg : ring.getD (b % cap) (0, 0) = ring[b % cap] := by simp [List.getD, List.getElem?_eq_getElem hl]
      rw [eg] at hR
      have hmem : ring[b % cap] ∈ ring := List.getElem_mem hl
      have a4 : (b + 1) * sz = b * sz + sz := by rw [Nat.add_mul]; omega
      have := maxOf_le xs (b * sz) ((b + 1) * sz) i (by omega) (by omega)
      rw [← hR] at this
      exact le2_trans this (g2 _ hmem)
    · have hr : k % sz ≠ 0 := by omega
      have := maxOf_le xs (q * sz) k i (by omega) i2
      rw [← hcur hr] at this
      exact le2_trans this g1
  obtain ⟨i, i1, i2, i3⟩ := hin
  obtain ⟨j, j1, j2, j3⟩ := maxOf_mem xs ((q - u) * sz) k hfk
  refine le2_anti ?_ ?_
  · rw [i3]; exact maxOf_le xs _ _ i i1 i2
  · rw [j3]; exact hge j j1 j2
end Go.Proofs.Qxb6601294a
