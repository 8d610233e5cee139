import Derived.Test.Qxb6600752aVw
namespace Go.Proofs.Qxb6600752a
open Go.RowKit Go.Maps

/-- Rows of words, of pairs of words. -/
abbrev Us (bf : List Nat) : List Value := bf.map fun (b : Nat) => Value.int .u64 (b : Int)
def Ul : List (Nat × Nat) → List Value
  | [] => []
  | p :: ps => .int .u64 (p.1 : Int) :: .int .u64 (p.2 : Int) :: Ul ps
theorem Ul_length : ∀ ps, (Ul ps).length = ps.length * 2
  | [] => rfl
  | p :: ps => by simp only [Ul, List.length_cons, Ul_length ps]; omega
theorem Ul_append : ∀ ps qs, Ul (ps ++ qs) = Ul ps ++ Ul qs
  | [], _ => rfl
  | p :: ps, qs => by simp only [List.cons_append, Ul, Ul_append ps qs]
theorem Ul_at : ∀ (ps : List (Nat × Nat)) (i : Nat) (p : Nat × Nat), ps[i]? = some p → (Ul ps)[i * 2]? = some (.int .u64 (p.1 : Int)) ∧ (Ul ps)[i * 2 + 1]? = some (.int .u64 (p.2 : Int))
  | [], i, p, h => by simp at h
  | q :: ps, 0, p, h => by simp at h; subst h; simp [Ul]
  | q :: ps, i + 1, p, h => by
    have ih := Ul_at ps i p (by simpa using h)
    have e1 : (i + 1) * 2 = i * 2 + 1 + 1 := by omega
    have e2 : (i + 1) * 2 + 1 = i * 2 + 1 + 1 + 1 := by omega
    rw [e2, e1]
    simp only [Ul, List.getElem?_cons_succ]
    exact ih
theorem Us_set (bf : List Nat) (x v : Nat) : (Us bf).set x (.int .u64 (v : Int)) = Us (bf.set x v) := by unfold Us; rw [List.map_set]
theorem Us_at (bf : List Nat) (x : Nat) (h : x < bf.length) : (Us bf)[x]? = some (.int .u64 (bf.getD x 0 : Int)) := by simp [Us, h]

/-- The rules in memory: the struct in block R, its two rows, the pairs' rows. -/
structure Rw (wr : World) (R gb gt bb n : Nat) (bf : List Nat) (vs : List Value) (bt : List (List (Nat × Nat))) : Prop where
  r0 : wr.cell? ⟨R, 0, none⟩ = some (.slice (some ⟨gb, 0, none⟩) n n)
  r1 : wr.cell? ⟨R, 1, none⟩ = some (.slice (some ⟨gt, 0, none⟩) n n)
  bo : wr.ownsRow gb 63 1 (.slice (some ⟨gb, 0, none⟩) n n) n (Us bf)
  tr : wr.ownsRow gt 124 1 (.slice (some ⟨gt, 0, none⟩) n n) n vs
  el : ∀ k, k < n → ∃ v, vs[k]? = some v ∧ wr.ownsRow bb 123 2 v (bt.getD k []).length (Ul (bt.getD k []))
  ap : ∀ (j k : Nat) (v u : Value) (b : Nat), j ≠ k → vs[j]? = some v → vs[k]? = some u → v.ownBlock = some b → u.ownBlock ≠ some b
  lb : bf.length = n
  lv : vs.length = n
  lt : bt.length = n
  d1 : R ≠ gb
  d2 : R ≠ gt
  d3 : gb ≠ gt
  e1 : R < bb
  e2 : gb < bb
  e3 : gt < bb
  hb : bb ≤ wr.heap.size

section
variable {wr : World} {R gb gt bb n : Nat} {bf : List Nat} {vs : List Value} {bt : List (List (Nat × Nat))}

theorem Rw.grown (h : Rw wr R gb gt bb n bf vs bt) {w' : World} (g : wr.grownBy w' none) : Rw w' R gb gt bb n bf vs bt :=
  ⟨grownBy_cell g h.r0, grownBy_cell g h.r1, owns_grown h.bo g, owns_grown h.tr g, fun k hk => let ⟨v, a, b⟩ := h.el k hk; ⟨v, a, owns_grown b g⟩, h.ap, h.lb, h.lv, h.lt, h.d1, h.d2, h.d3, h.e1, h.e2, h.e3, Nat.le_trans h.hb g.size⟩

/-- A block that is none of the rules' turns. -/
theorem Rw.other (h : Rw wr R gb gt bb n bf vs bt) {w' : World} {b : Nat} (g : wr.grownBy w' (some b)) (n1 : b ≠ R) (n2 : b ≠ gb) (n3 : b ≠ gt) (n4 : b < bb) : Rw w' R gb gt bb n bf vs bt := by
  have hR : w'.heap[R]? = wr.heap[R]? := g.block R (World.block_lt_of_cell? _ _ h.r0) (by simp; omega)
  refine ⟨(World.cell?_of_block hR).trans h.r0, (World.cell?_of_block hR).trans h.r1, h.bo.kept g (.inr (by simp [Value.ownBlock]; omega)), h.tr.kept g (.inr (by simp [Value.ownBlock]; omega)), fun k hk => ?_, h.ap, h.lb, h.lv, h.lt, h.d1, h.d2, h.d3, h.e1, h.e2, h.e3, Nat.le_trans h.hb g.size⟩
  obtain ⟨v, a, o⟩ := h.el k hk
  exact ⟨v, a, o.kept g (.inr fun e => by have := (o.lt _ e).1; omega)⟩

/-- A store into 'before'. -/
theorem Rw.setB (h : Rw wr R gb gt bb n bf vs bt) (x v : Nat) : Rw (wr.setCell ⟨gb, x, none⟩ (.int .u64 (v : Int))) R gb gt bb n (bf.set x v) vs bt ∧ wr.grownBy (wr.setCell ⟨gb, x, none⟩ (.int .u64 (v : Int))) (some gb) := by
  have hst := h.bo.stored x (.int .u64 (v : Int))
  rw [Us_set] at hst
  have d1 := h.d1
  have d3 := h.d3
  have e2 := h.e2
  refine ⟨⟨cell_set h.r0 (by simp; omega), cell_set h.r1 (by simp; omega), hst.1, owns_other h.tr _ _ (by simp [Value.ownBlock]; omega), fun k hk => ?_, h.ap, by rw [List.length_set]; exact h.lb, h.lv, h.lt, h.d1, h.d2, h.d3, h.e1, h.e2, h.e3, by simpa using h.hb⟩, hst.2⟩
  obtain ⟨u, a, o⟩ := h.el k hk
  exact ⟨u, a, owns_other o _ _ (fun e => by have := (o.lt _ e).1; simp at this; omega)⟩

/-- A pair appended to row k, and the slice stored. -/
theorem Rw.pair (h : Rw wr R gb gt bb n bf vs bt) {k : Nat} (hk : k < n) {u : Value} (hu : vs[k]? = some u) {w' : World} {u' : Value} (g : wr.grownBy w' u.ownBlock) (hl : u'.ownBlock = u.ownBlock ∨ u'.ownBlock = some wr.heap.size) (p : Nat × Nat)
    (ho : w'.ownsRow bb 123 2 u' ((bt.getD k []).length + 1) (Ul (bt.getD k []) ++ [.int .u64 (p.1 : Int), .int .u64 (p.2 : Int)])) :
    Rw (w'.setCell ⟨gt, k, none⟩ u') R gb gt bb n bf (vs.set k u') (bt.set k (bt.getD k [] ++ [p])) := by
  have d2 := h.d2
  have d3 := h.d3
  have e1 := h.e1
  have e2 := h.e2
  have e3 := h.e3
  have hbs := h.hb
  have ownu : ∀ b, u.ownBlock = some b → bb ≤ b ∧ b < wr.heap.size := fun b e => by
    obtain ⟨v, a, o⟩ := h.el k hk
    rw [hu] at a
    cases a
    have := o.lt _ e
    exact ⟨this.1, this.2⟩
  have ne : ∀ b, b < bb → some b ≠ u.ownBlock := fun b hb e => by have := (ownu b e.symm).1; omega
  have hR : w'.heap[R]? = wr.heap[R]? := g.block R (World.block_lt_of_cell? _ _ h.r0) (ne R e1)
  have own' : ∀ b, u'.ownBlock = some b → bb ≤ b ∧ (u.ownBlock = some b ∨ b = wr.heap.size) := fun b e => by
    rcases hl with hl | hl
    · rw [hl] at e
      exact ⟨(ownu b e).1, .inl e⟩
    · rw [hl] at e
      cases e
      exact ⟨hbs, .inr rfl⟩
  have hto := h.tr.kept g (.inr (by simp only [Value.ownBlock]; exact ne gt e3))
  have hst := hto.stored k u'
  refine ⟨cell_set ((World.cell?_of_block hR).trans h.r0) (by simp; omega), cell_set ((World.cell?_of_block hR).trans h.r1) (by simp; omega), owns_other (h.bo.kept g (.inr (by simp only [Value.ownBlock]; exact ne gb e2))) _ _ (by simp [Value.ownBlock]; omega), hst.1, fun j hj => ?_, fun i j v y b hij hv hy hvb => ?_, h.lb, by rw [List.length_set]; exact h.lv, by rw [List.length_set]; exact h.lt, h.d1, d2, d3, e1, e2, e3, by simpa using Nat.le_trans hbs g.size⟩
  · by_cases e : j = k
    · subst e
      refine ⟨u', by simp [h.lv, hj], ?_⟩
      have : (bt.set j (bt.getD j [] ++ [p])).getD j [] = bt.getD j [] ++ [p] := by simp [h.lt, hj]
      rw [this, Ul_append, List.length_append]
      exact owns_other ho _ _ (fun e => by have := (own' _ e).1; simp at this; omega)
    · obtain ⟨v, a, o⟩ := h.el j hj
      refine ⟨v, by rw [List.getElem?_set_ne (Ne.symm e)]; exact a, ?_⟩
      have : (bt.set k (bt.getD k [] ++ [p])).getD j [] = bt.getD j [] := by simp [List.getD, List.getElem?_set_ne (Ne.symm e)]
      rw [this]
      refine owns_other (o.kept g ?_) _ _ (fun e => by have := (o.lt _ e).1; simp at this; omega)
      cases hub : u.ownBlock with
      | none =>
        cases v.ownBlock with
        | none => exact .inl rfl
        | some _ => exact .inr (by simp)
      | some b => exact .inr fun e2 => h.ap j k v u b e a hu e2 hub
  · by_cases ei : i = k
    · subst ei
      rw [List.getElem?_set_self (by rw [h.lv]; exact hk)] at hv
      cases hv
      rw [List.getElem?_set_ne hij] at hy
      rcases (own' b hvb).2 with e | e
      · exact h.ap i j u y b hij hu hy e
      · subst e
        intro e2
        have hj : j < n := by have := (List.getElem?_eq_some_iff.1 hy).1; rw [h.lv] at this; exact this
        obtain ⟨v, a, o⟩ := h.el j hj
        rw [hy] at a
        cases a
        have := (o.lt _ e2).2
        omega
    · rw [List.getElem?_set_ne (Ne.symm ei)] at hv
      by_cases ej : j = k
      · subst ej
        rw [List.getElem?_set_self (by rw [h.lv]; exact hk)] at hy
        cases hy
        intro e2
        rcases (own' b e2).2 with e | e
        · exact h.ap i j v u b hij hv hu hvb e
        · subst e
          have hi : i < n := by have := (List.getElem?_eq_some_iff.1 hv).1; rw [h.lv] at this; exact this
          obtain ⟨v2, a, o⟩ := h.el i hi
          rw [hv] at a
          cases a
          have := (o.lt _ hvb).2
          omega
      · rw [List.getElem?_set_ne (Ne.symm ej)] at hy
        exact h.ap i j v y b hij hv hy hvb
end
end Go.Proofs.Qxb6600752a
