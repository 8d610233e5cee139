import Derived.Test.Qxb6600684aRef
namespace Go.Proofs.Qxb6600684a

/-- One of the first m spans covers p. -/
def Cov (S E : List Int) (m p : Nat) : Prop := ∃ l, l < m ∧ S.getD l 0 ≤ (p : Int) ∧ (p : Int) < E.getD l 0

theorem chain_mono {n p p' : Int} {S E : List Int} (h : Chain n p S E) (hp : ∀ s S', S = s :: S' → p' ≤ s) : Chain n p' S E := by
  match S, E, h with
  | [], _, _ => simp [Chain]
  | s :: S, e :: E, ⟨h1, h2, h3, h4⟩ => exact ⟨hp s S rfl, h2, h3, h4⟩
  | _ :: _, [], _ => simp [Chain]

theorem chain_weaken {n p p' : Int} {S E : List Int} (h : Chain n p S E) (hp : p' ≤ p) : Chain n p' S E := by
  match S, E, h with
  | [], _, _ => simp [Chain]
  | s :: S, e :: E, ⟨h1, h2, h3, h4⟩ => exact ⟨by omega, h2, h3, h4⟩
  | _ :: _, [], _ => simp [Chain]

theorem chain_drop {n : Int} {S E : List Int} (he : S.length = E.length) : ∀ (k : Nat) (p : Int), Chain n p S E → k ≤ S.length → ∃ q, p ≤ q ∧ Chain n q (S.drop k) (E.drop k)
  | 0, p, h, _ => ⟨p, by omega, by simpa using h⟩
  | k + 1, p, h, hk => by
    obtain ⟨q, h1, h2⟩ := chain_drop he k p h (by omega)
    have := chain_at (by omega) he h2
    exact ⟨_, by omega, this.2.2.2⟩

theorem chain_all {n p : Int} {S E : List Int} (he : S.length = E.length) (h : Chain n p S E) (k : Nat) (hk : k < S.length) : p ≤ S.getD k 0 ∧ S.getD k 0 ≤ E.getD k 0 ∧ E.getD k 0 ≤ n := by
  obtain ⟨q, h1, h2⟩ := chain_drop he k p h (by omega)
  have := chain_at hk he h2
  omega

/-- Behind the j-th span every start is no less. -/
theorem chain_later {n p : Int} {S E : List Int} (he : S.length = E.length) (j : Nat) (h : Chain n p (S.drop j) (E.drop j)) (l : Nat) (hj : j ≤ l) (hl : l < S.length) : p ≤ S.getD l 0 ∧ S.getD j 0 ≤ S.getD l 0 := by
  have he' : (S.drop j).length = (E.drop j).length := by simp [he]
  have h1 := chain_all he' h (l - j) (by simp; omega)
  have e1 : (S.drop j).getD (l - j) 0 = S.getD l 0 := by simp only [List.getD, List.getElem?_drop]; congr 2; omega
  rw [e1] at h1
  refine ⟨h1.1, ?_⟩
  by_cases hjl : j = l
  · subst hjl; omega
  · have h2 := chain_at (by omega) he h
    have he2 : (S.drop (j + 1)).length = (E.drop (j + 1)).length := by simp [he]
    have h3 := chain_all he2 h2.2.2.2 (l - (j + 1)) (by simp; omega)
    have e2 : (S.drop (j + 1)).getD (l - (j + 1)) 0 = S.getD l 0 := by simp only [List.getD, List.getElem?_drop]; congr 2; omega
    rw [e2] at h3
    omega

/-- The model's state at position p with j spans begun: q is the next byte that is kept. -/
def Mid (xs err S E out done : List Int) (j p : Nat) : Prop :=
  ∃ q : Nat, p ≤ q ∧ q ≤ xs.length ∧ done ++ refuseGo xs err q (S.drop j) (E.drop j) = out ∧ Chain xs.length q (S.drop j) (E.drop j) ∧ (∀ i, p ≤ i → i < q → Cov S E S.length i) ∧ ∀ l, l < j → E.getD l 0 ≤ (q : Int)

theorem mid_take {xs err S E out done : List Int} {j p : Nat} (he : S.length = E.length) (h : Mid xs err S E out done j p) (hj : j < S.length) (hs : S.getD j 0 = (p : Int)) : Mid xs err S E out (done ++ err) (j + 1) p := by
  obtain ⟨q, h1, h2, h3, h4, h5, h6⟩ := h
  obtain ⟨c1, c2, c3, c4⟩ := chain_at hj he h4
  have hqp : q = p := by omega
  subst hqp
  rw [refuseGo_step xs err q j S E hj he] at h3
  obtain ⟨t, ht⟩ := Int.eq_ofNat_of_zero_le (show 0 ≤ E.getD j 0 by omega)
  refine ⟨t, by omega, by omega, ?_, by rw [← ht]; exact c4, fun i hi hit => ⟨j, hj, by omega, by omega⟩, fun l hl => ?_⟩
  · rw [← h3, ht, hs]
    simp
  · by_cases hlj : l = j
    · subst hlj; omega
    · have := h6 l (by omega)
      omega

theorem refuse_head {xs err S E : List Int} {p : Nat} (he : S.length = E.length) (hp : p < xs.length) (hs : ∀ s S', S = s :: S' → (p : Int) + 1 ≤ s) : refuseGo xs err p S E = xs.getD p 0 :: refuseGo xs err (p + 1) S E := by
  have hd : xs.drop p = xs.getD p 0 :: xs.drop (p + 1) := by
    rw [List.drop_eq_getElem_cons hp]
    simp [List.getD, hp]
  match S, E, he with
  | [], [], _ => exact hd
  | s :: S, e :: E, _ =>
    have h1 := hs s S rfl
    have e1 : s.toNat - p = (s.toNat - (p + 1)) + 1 := by omega
    simp only [refuseGo]
    rw [e1, hd, List.take_succ_cons, List.cons_append]

theorem mid_head {xs S E : List Int} {j p : Nat} (he : S.length = E.length) (hj : j = S.length ∨ S.getD j 0 ≠ (p : Int)) (q : Nat) (hq : p ≤ q)
    (h4 : Chain xs.length q (S.drop j) (E.drop j)) : ∀ s S', S.drop j = s :: S' → (p : Int) + 1 ≤ s := by
  intro s S' hs
  have hlt : j < S.length := by
    rcases Nat.lt_or_ge j S.length with h | h
    · exact h
    · rw [List.drop_of_length_le h] at hs; cases hs
  have := chain_at hlt he h4
  rw [List.drop_eq_getElem_cons hlt] at hs
  have hs0 : S.getD j 0 = s := by
    simp only [List.getD, List.getElem?_eq_getElem hlt, Option.getD_some]
    injection hs
  rw [hs0] at this hj
  rcases hj with h | h
  · omega
  · omega

theorem mid_skip {xs err S E out done : List Int} {j p : Nat} (he : S.length = E.length) (h : Mid xs err S E out done j p) (hj : j = S.length ∨ S.getD j 0 ≠ (p : Int)) (hjl : j ≤ S.length) (hc : Cov S E S.length p) : Mid xs err S E out done j (p + 1) := by
  obtain ⟨q, h1, h2, h3, h4, h5, h6⟩ := h
  have hlt : p < q := by
    obtain ⟨l, hl, c1, c2⟩ := hc
    rcases Nat.lt_or_ge l j with h | h
    · have := h6 l h
      omega
    · have hjlt : j < S.length := by omega
      have c3 := chain_later he j h4 l h hl
      have c4 := (chain_later he j h4 j (Nat.le_refl _) hjlt).1
      rcases hj with hj | hj
      · omega
      · omega
  exact ⟨q, hlt, h2, h3, h4, fun i hi hq => h5 i (by omega) hq, h6⟩

theorem mid_put {xs err S E out done : List Int} {j p : Nat} (he : S.length = E.length) (h : Mid xs err S E out done j p) (hj : j = S.length ∨ S.getD j 0 ≠ (p : Int)) (hp : p < xs.length) (hc : ¬ Cov S E S.length p) :
    Mid xs err S E out (done ++ [xs.getD p 0]) j (p + 1) := by
  have hm := mid_head (xs := xs) (S := S) (E := E) he hj
  obtain ⟨q, h1, h2, h3, h4, h5, h6⟩ := h
  have hqp : q = p := by
    rcases Nat.lt_or_ge p q with h | h
    · exact absurd (h5 p (Nat.le_refl _) h) hc
    · omega
  subst hqp
  have hh := hm q (Nat.le_refl _) h4
  have he' : (S.drop j).length = (E.drop j).length := by simp [he]
  rw [refuse_head he' hp hh] at h3
  refine ⟨q + 1, Nat.le_refl _, hp, ?_, chain_mono h4 (fun s S' hs => by have := hh s S' hs; omega), fun i hi hq => by omega, fun l hl => by have := h6 l hl; omega⟩
  rw [← h3]
  simp

theorem mid_last {xs err S E out done : List Int} {j : Nat} (he : S.length = E.length) (h : Mid xs err S E out done j xs.length) (hj : j = S.length ∨ S.getD j 0 ≠ (xs.length : Int)) (hjl : j ≤ S.length) : done = out := by
  obtain ⟨q, h1, h2, h3, h4, h5, h6⟩ := h
  have hq : q = xs.length := by omega
  subst hq
  have hjn : j = S.length := by
    rcases hj with h | h
    · exact h
    · rcases Nat.lt_or_ge j S.length with hlt | hge
      · have := chain_at hlt he h4
        omega
      · omega
  subst hjn
  rw [List.drop_of_length_le (Nat.le_refl S.length)] at h3
  simpa [refuseGo] using h3

theorem refuse_zero {xs err S E : List Int} (he : S.length = E.length) : ∀ (f p : Nat), p ≤ f → f ≤ xs.length → Chain xs.length f S E → (xs.drop p).take (f - p) ++ refuseGo xs err f S E = refuseGo xs err p S E := by
  intro f p hpf hf hch
  match S, E, he, hch with
  | [], [], _, _ =>
    simp only [refuseGo]
    have : xs.drop f = (xs.drop p).drop (f - p) := by rw [List.drop_drop]; congr 1; omega
    rw [this, List.take_append_drop]
  | s :: S, e :: E, _, ⟨h1, h2, h3, h4⟩ =>
    simp only [refuseGo]
    rw [← List.append_assoc]
    congr 1
    have e1 : xs.drop f = (xs.drop p).drop (f - p) := by rw [List.drop_drop]; congr 1; omega
    have e2 : s.toNat - p = (f - p) + (s.toNat - f) := by omega
    rw [e1, e2, List.take_add]

theorem mid_start {xs err S E : List Int} {f : Nat} (he : S.length = E.length) (hf : f ≤ xs.length) (hch : Chain xs.length f S E) : Mid xs err S E (xs.take f ++ refuseGo xs err f S E) [] 0 0 := by
  refine ⟨0, Nat.le_refl _, Nat.zero_le _, ?_, by simpa using chain_weaken hch (by omega), fun i _ h => by omega, fun l h => by omega⟩
  have := refuse_zero (err := err) he f 0 (Nat.zero_le _) hf hch
  simpa using this.symm
theorem mid_length {xs err S E out done : List Int} {j p : Nat} (h : Mid xs err S E out done j p) : done.length ≤ out.length := by
  obtain ⟨q, _, _, h3, _⟩ := h
  rw [← h3]
  simp
theorem refuse_le (xs err : List Int) : ∀ (S E : List Int) (p : Nat), S.length = E.length → p ≤ xs.length → Chain xs.length p S E →
    (refuseGo xs err p S E).length + p ≤ xs.length + S.length * err.length
  | [], [], p, _, hp, _ => by
    simp [refuseGo]
    omega
  | s :: S, e :: E, p, hl, hp, ⟨h1, h2, h3, h4⟩ => by
    obtain ⟨s, rfl⟩ := Int.eq_ofNat_of_zero_le (show 0 ≤ s by omega)
    obtain ⟨e, rfl⟩ := Int.eq_ofNat_of_zero_le (show 0 ≤ e by omega)
    have ih := refuse_le xs err S E e (by simpa using hl) (by omega) h4
    simp only [refuseGo, List.length_append, List.length_take, List.length_drop, Int.toNat_natCast, List.length_cons, Nat.succ_mul]
    omega
  | [], _ :: _, _, h, _, _ => by simp at h
  | _ :: _, [], _, h, _, _ => by simp at h
end Go.Proofs.Qxb6600684a
