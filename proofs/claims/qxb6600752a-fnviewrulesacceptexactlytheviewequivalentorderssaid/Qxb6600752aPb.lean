import Derived.Test.Qxb6600752aPa
namespace Go.Proofs.Qxb6600752a
namespace Ev
variable (E : Ev)

/-- What viewRulesOf has kept after k events. -/
structure VI (k : Nat) (S : VS) : Prop where
  last : ∀ t, S.rs.last t = (E.H k).last t
  cnt : ∀ y t, S.rs.cnt y t = (E.H k).cnt y t
  wr : ∀ t y, (S.wr t).testBit y = true ↔ 0 < (E.H k).cnt y t
  fi : ∀ t y, (S.fi t).testBit y = true ↔ ∃ i, i < k ∧ E.isR i = true ∧ E.x i = y ∧ E.s i = t ∧ (E.H i).last t = none
  rd : ∀ r, r ∈ S.rd ↔ ∃ i p, i < k ∧ E.isR i = true ∧ (E.H i).last (E.s i) = some p ∧ p.1 ≠ E.x i ∧ r = (p, E.x i, E.s i)
  own : ∀ i p, i < k → E.isR i = true → (E.H i).last (E.s i) = some p → p.1 ≠ E.x i → (E.H i).cnt (E.x i) (E.s i) = 0
theorem vi0 : E.VI 0 vInit := ⟨fun _ => rfl, fun _ _ => rfl, fun t y => by simp [vInit, H, run, init, rInit], fun t y => by simp [vInit], fun r => by simp [vInit], fun i p h => by omega⟩

theorem lt_or {P : Nat → Prop} {k : Nat} : (∃ i, i < k + 1 ∧ P i) ↔ (∃ i, i < k ∧ P i) ∨ P k := by
  constructor
  · rintro ⟨i, h, hp⟩
    by_cases e : i = k
    · subst e; exact .inr hp
    · exact .inl ⟨i, by omega, hp⟩
  · rintro (⟨i, h, hp⟩ | hp)
    · exact ⟨i, by omega, hp⟩
    · exact ⟨k, by omega, hp⟩
theorem lt_or2 {α : Type} {P : Nat → α → Prop} {k : Nat} : (∃ i p, i < k + 1 ∧ P i p) ↔ (∃ i p, i < k ∧ P i p) ∨ ∃ p, P k p := by
  constructor
  · rintro ⟨i, p, h, hp⟩
    by_cases e : i = k
    · subst e; exact .inr ⟨p, hp⟩
    · exact .inl ⟨i, p, by omega, hp⟩
  · rintro (⟨i, p, h, hp⟩ | ⟨p, hp⟩)
    · exact ⟨i, p, by omega, hp⟩
    · exact ⟨k, p, by omega, hp⟩

/-- An event that is no read keeps what the reads tell. -/
theorem VI.noread {k : Nat} {S S' : VS} (h : E.VI k S) (hr : E.isR k = false) (e1 : ∀ t, S'.rs.last t = (E.H (k + 1)).last t) (e2 : ∀ y t, S'.rs.cnt y t = (E.H (k + 1)).cnt y t) (e3 : ∀ t y, (S'.wr t).testBit y = true ↔ 0 < (E.H (k + 1)).cnt y t) (e4 : S'.fi = S.fi) (e5 : S'.rd = S.rd) : E.VI (k + 1) S' := by
  refine ⟨e1, e2, e3, fun t y => ?_, fun r => ?_, fun i p hi hr' => ?_⟩
  · rw [e4, h.fi, lt_or]
    simp [hr]
  · rw [e5, h.rd, lt_or2]
    simp [hr]
  · by_cases e : i = k
    · subst e
      rw [hr] at hr'
      cases hr'
    · exact h.own i p (by omega) hr'
theorem H_read {k : Nat} (hr : E.isR k = true) : (∀ t, (E.H (k + 1)).last t = (E.H k).last t) ∧ ∀ y t, (E.H (k + 1)).cnt y t = (E.H k).cnt y t := by
  rw [H_succ, E.step_r hr]
  exact ⟨fun _ => rfl, fun _ _ => rfl⟩
theorem VI.wr' {k : Nat} {S : VS} (h : E.VI k S) (hr : E.isR k = true) : ∀ t y, (S.wr t).testBit y = true ↔ 0 < (E.H (k + 1)).cnt y t := fun t y => by rw [(E.H_read hr).2]; exact h.wr t y

def Bad (k : Nat) : Prop := ∃ i p, i < k ∧ E.isR i = true ∧ (E.H i).last (E.s i) = some p ∧ p.1 ≠ E.x i ∧ 0 < (E.H i).cnt (E.x i) (E.s i)

theorem vi_step {k : Nat} {S : VS} (h : E.VI k S) {c : Bool} (hc : c = E.cm.getD (E.x k) false) : (∃ S', vStep S c (E.x k) (E.ac.getD k 0 % 4) (E.s k) = some S' ∧ E.VI (k + 1) S') ∨ (vStep S c (E.x k) (E.ac.getD k 0 % 4) (E.s k) = none ∧ E.Bad (k + 1)) := by
  unfold vStep
  by_cases hr : E.isR k = true
  · have hr2 := hr
    simp only [isR, Bool.and_eq_true, beq_iff_eq] at hr2
    rw [hc, if_pos hr2.1, if_pos hr2.2]
    unfold vGet
    rw [h.last]
    obtain ⟨r1, r2⟩ := E.H_read hr
    cases hl : (E.H k).last (E.s k) with
    | none =>
      refine .inl ⟨_, rfl, fun t => (h.last t).trans (r1 t).symm, fun y t => (h.cnt y t).trans (r2 y t).symm, h.wr' E hr, fun t y => ?_, fun r => ?_, fun i p hi hr' hp => ?_⟩
      · rw [lt_or, ← h.fi]
        simp only [VS.first]
        by_cases e : t = E.s k
        · subst e
          rw [if_pos rfl, Nat.testBit_or, Bool.or_eq_true, Nat.testBit_two_pow]
          simp [hr, hl]
        · rw [if_neg e]
          simp [Ne.symm e]
      · rw [lt_or2, ← h.rd]
        simp [VS.first, hl]
      · by_cases e : i = k
        · subst e
          rw [hl] at hp
          cases hp
        · exact h.own i p (by omega) hr' hp
    | some p =>
      show (∃ S', (if p.1 = E.x k then _ else _) = _ ∧ _) ∨ ((if p.1 = E.x k then _ else _) = _ ∧ _)
      have fi' : ∀ t y, (S.fi t).testBit y = true ↔ ∃ i, i < k + 1 ∧ E.isR i = true ∧ E.x i = y ∧ E.s i = t ∧ (E.H i).last t = none := fun t y => by
        rw [lt_or, ← h.fi]
        constructor
        · exact .inl
        · rintro (h | ⟨_, _, rfl, h⟩)
          · exact h
          · rw [hl] at h
            cases h
      by_cases hp : p.1 = E.x k
      · rw [if_pos hp]
        refine .inl ⟨_, rfl, fun t => (h.last t).trans (r1 t).symm, fun y t => (h.cnt y t).trans (r2 y t).symm, h.wr' E hr, fi', fun r => ?_, fun i q hi hr' hq hne => ?_⟩
        · rw [lt_or2, ← h.rd]
          constructor
          · exact .inl
          · rintro (h | ⟨q, _, h, h2, _⟩)
            · exact h
            · rw [hl] at h
              cases h
              exact absurd hp h2
        · by_cases e : i = k
          · subst e
            rw [hl] at hq
            cases hq
            exact absurd hp hne
          · exact h.own i q (by omega) hr' hq hne
      · rw [if_neg hp, h.cnt]
        by_cases h0 : 0 < (E.H k).cnt (E.x k) (E.s k)
        · rw [if_pos h0]
          exact .inr ⟨rfl, k, p, by omega, hr, hl, hp, h0⟩
        · rw [if_neg h0]
          refine .inl ⟨_, rfl, fun t => (h.last t).trans (r1 t).symm, fun y t => (h.cnt y t).trans (r2 y t).symm, h.wr' E hr, fi', fun r => ?_, fun i q hi hr' hq hne => ?_⟩
          · rw [lt_or2, ← h.rd]
            simp only [VS.read, List.mem_append, List.mem_singleton]
            constructor
            · rintro (h | rfl)
              · exact .inl h
              · exact .inr ⟨p, hr, hl, hp, rfl⟩
            · rintro (h | ⟨q, _, h, _, rfl⟩)
              · exact .inl h
              · rw [hl] at h
                cases h
                exact .inr rfl
          · by_cases e : i = k
            · subst e
              omega
            · exact h.own i q (by omega) hr' hq hne
  · have hr2 : E.isR k = false := by simpa using hr
    by_cases hw : E.isW k = true
    · have hw2 := hw
      simp only [isW, Bool.and_eq_true, beq_iff_eq] at hw2
      rw [hc, if_pos hw2.1, if_neg (by omega), if_pos hw2.2]
      refine .inl ⟨_, rfl, VI.noread E h hr2 (fun t => ?_) (fun y t => ?_) (fun t y => ?_) rfl rfl⟩
      · rw [H_succ, E.step_w hw]
        simp only [VS.put, RS.put, h.last, h.cnt]
      · rw [H_succ, E.step_w hw]
        simp only [VS.put, RS.put, h.cnt]
      · rw [H_succ, E.step_cnt]
        simp only [VS.put]
        by_cases e : t = E.s k
        · subst e
          rw [if_pos rfl, Nat.testBit_or, Bool.or_eq_true, Nat.testBit_two_pow, h.wr]
          by_cases ey : E.x k = y
          · simp [hw, ey]
          · simp [ey]
        · rw [if_neg e, h.wr]
          simp [Ne.symm e]
    · have hw2 : E.isW k = false := by simpa using hw
      have hS : E.H (k + 1) = E.H k := by rw [H_succ, E.step_o hw2 hr2]
      have hv : (if c = true then (if E.ac.getD k 0 % 4 = 0 then vGet S (E.x k) (E.s k) else if E.ac.getD k 0 % 4 = 1 then some (S.put (E.x k) (E.s k)) else some S) else some S) = some S := by
        rw [hc]
        by_cases hcm : E.cm.getD (E.x k) false = true
        · simp only [isW, hcm, Bool.true_and, beq_eq_false_iff_ne] at hw2
          simp only [isR, hcm, Bool.true_and, beq_eq_false_iff_ne] at hr2
          rw [if_pos hcm, if_neg hr2, if_neg hw2]
        · rw [if_neg hcm]
      rw [hv]
      refine .inl ⟨_, rfl, VI.noread E h hr2 (fun t => ?_) (fun y t => ?_) (fun t y => ?_) rfl rfl⟩
      · rw [hS]; exact h.last t
      · rw [hS]; exact h.cnt y t
      · rw [hS]; exact h.wr t y

theorem vi_to {es : List (Int × Nat × ByteArray)} {cmf : Int → Bool} {xi : Nat → Nat} (hE : ∀ k, k < E.m → ∃ e, es[k]? = some e ∧ cmf e.1 = E.cm.getD (E.x k) false ∧ xi k = E.x k ∧ e.2.1 = E.ac.getD k 0 % 4 ∧ e.2.2 = E.s k) :
    ∀ k, k ≤ E.m → (∃ S, vTo es cmf xi k = some S ∧ E.VI k S) ∨ (vTo es cmf xi k = none ∧ E.Bad k)
  | 0, _ => .inl ⟨_, rfl, E.vi0⟩
  | k + 1, hk => by
    obtain ⟨e, h1, h2, h3, h4, h5⟩ := hE k (by omega)
    rcases vi_to hE k (by omega) with ⟨S, hS, hI⟩ | ⟨hN, i, p, hi, hb⟩
    · have := E.vi_step hI h2
      simp only [vTo, hS, h1, Option.bind_some, h3, h4, h5]
      exact this
    · exact .inr ⟨by simp [vTo, hN], i, p, by omega, hb⟩
end Ev
end Go.Proofs.Qxb6600752a
