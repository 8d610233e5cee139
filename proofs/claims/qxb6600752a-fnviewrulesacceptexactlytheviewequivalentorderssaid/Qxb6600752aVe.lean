import Derived.Test.Qxb6600752aVd
import Derived.Deep.AppendLies
namespace Go.Proofs.Qxb6600752a
open Go.RowKit Go.Maps

theorem info123 : (Try.prog.info? 123).map (fun i => (i.zero, i.size, i.bytes)) = some (some (.agg #[.int .u64 0, .int .u64 0]), 2, 16) := by kernel_rfl

/-- A read's inner loop: all that lies in memory. -/
structure Ri (W4 w wi : World) (B1 B2 B3 B4 R gb gt bb n m X Y fr tt : Nat) (item : ByteArray) (v : Value) (S : VS) (bf : List Nat) (vs : List Value) (bt : List (List (Nat × Nat))) : Prop where
  rw : Rw wi R gb gt bb n bf vs bt
  vw : Vw W4 wi B1 B2 B3 B4 W4.heap.size n m v S
  gr : w.grownBy wi none
  x0 : wi.cell? ⟨X, 0, none⟩ = some (.int .i64 (fr : Int))
  x2 : wi.cell? ⟨X, 2, none⟩ = some (.int .i64 (tt : Int))
  x3 : wi.cell? ⟨X, 3, none⟩ = some (.string item)
  y0 : wi.cell? ⟨Y, 0, none⟩ = some (.int .u64 ((2 ^ fr : Nat) : Int))
  y1 : wi.cell? ⟨Y, 1, none⟩ = some (.int .u64 ((2 ^ tt : Nat) : Int))
  nb : ∀ (k : Nat) (u : Value), vs[k]? = some u → u.ownBlock ≠ some X ∧ u.ownBlock ≠ some Y
  hX : bb ≤ X
  hY : bb ≤ Y
section
variable {W4 w wi : World} {B1 B2 B3 B4 R gb gt bb n m X Y fr tt : Nat} {item : ByteArray} {v : Value} {S : VS} {bf : List Nat} {vs : List Value} {bt : List (List (Nat × Nat))}
theorem Ri.grown (h : Ri W4 w wi B1 B2 B3 B4 R gb gt bb n m X Y fr tt item v S bf vs bt) {w' : World} (g : wi.grownBy w' none) : Ri W4 w w' B1 B2 B3 B4 R gb gt bb n m X Y fr tt item v S bf vs bt :=
  ⟨h.rw.grown g, h.vw.grown g, grownBy_trans h.gr g (.inl rfl), grownBy_cell g h.x0, grownBy_cell g h.x2, grownBy_cell g h.x3, grownBy_cell g h.y0, grownBy_cell g h.y1, h.nb, h.hX, h.hY⟩
theorem Ri.pair (h : Ri W4 w wi B1 B2 B3 B4 R gb gt bb n m X Y fr tt item v S bf vs bt) (hv : ∀ b, v.ownBlock = some b → b < gt) (hW : W4.heap.size ≤ gt) (hw : w.heap.size ≤ W4.heap.size) {k : Nat} (hk : k < n) {u : Value} (hu : vs[k]? = some u) {w1 : World} (g : wi.grownBy w1 u.ownBlock) {g' c' : Nat} (hl : u.ownBlock = some g' ∨ g' = wi.heap.size)
    (ho : w1.ownsRow bb 123 2 (.slice (some ⟨g', 0, none⟩) ((bt.getD k []).length + 1) c') ((bt.getD k []).length + 1) (Ul (bt.getD k []) ++ [.int .u64 ((2 ^ fr : Nat) : Int), .int .u64 ((2 ^ tt : Nat) : Int)])) :
    Ri W4 w (w1.setCell ⟨gt, k, none⟩ (.slice (some ⟨g', 0, none⟩) ((bt.getD k []).length + 1) c')) B1 B2 B3 B4 R gb gt bb n m X Y fr tt item v S bf (vs.set k (.slice (some ⟨g', 0, none⟩) ((bt.getD k []).length + 1) c')) (bt.set k (bt.getD k [] ++ [(2 ^ fr, 2 ^ tt)])) := by
  have e3 := h.rw.e3
  have hX := h.hX
  have hY := h.hY
  have hXl : X < wi.heap.size := World.block_lt_of_cell? _ _ h.x0
  have hYl : Y < wi.heap.size := World.block_lt_of_cell? _ _ h.y0
  have own : ∀ b, u.ownBlock = some b → bb ≤ b := fun b e => by
    obtain ⟨u2, a, o⟩ := h.rw.el k hk
    rw [hu] at a
    cases a
    exact (o.lt _ e).1
  have hg2 := grownBy_setCell w1 ⟨gt, k, none⟩ (.slice (some ⟨g', 0, none⟩) ((bt.getD k []).length + 1) c')
  have cx : ∀ o x, wi.cell? ⟨X, o, none⟩ = some x → (w1.setCell ⟨gt, k, none⟩ (.slice (some ⟨g', 0, none⟩) ((bt.getD k []).length + 1) c')).cell? ⟨X, o, none⟩ = some x := fun o x e => cell_set (g.cell e (fun e2 => (h.nb k u hu).1 e2.symm)) (by simp; omega)
  have cy : ∀ o x, wi.cell? ⟨Y, o, none⟩ = some x → (w1.setCell ⟨gt, k, none⟩ (.slice (some ⟨g', 0, none⟩) ((bt.getD k []).length + 1) c')).cell? ⟨Y, o, none⟩ = some x := fun o x e => cell_set (g.cell e (fun e2 => (h.nb k u hu).2 e2.symm)) (by simp; omega)
  have hvw : Vw W4 w1 B1 B2 B3 B4 W4.heap.size n m v S := by
    cases hub : u.ownBlock with
    | none => rw [hub] at g; exact h.vw.grown g
    | some b =>
      rw [hub] at g
      have := own b hub
      exact h.vw.other g (by omega) (fun e => by have := hv b e; omega)
  have hl2 : (Value.slice (some ⟨g', 0, none⟩) ((bt.getD k []).length + 1) c').ownBlock = u.ownBlock ∨ (Value.slice (some ⟨g', 0, none⟩) ((bt.getD k []).length + 1) c').ownBlock = some wi.heap.size := by
    rcases hl with e | e
    · exact .inl e.symm
    · exact .inr (by rw [e]; rfl)
  refine ⟨h.rw.pair hk hu g hl2 (2 ^ fr, 2 ^ tt) ho, hvw.other hg2 hW (fun e => by have := hv gt e; omega), ?_, cx _ _ h.x0, cx _ _ h.x2, cx _ _ h.x3, cy _ _ h.y0, cy _ _ h.y1, fun j y hj => ?_, hX, hY⟩
  · refine grownBy_trans (grownBy_trans h.gr g (.inr fun j e => by have := own j e; omega)) hg2 (.inr fun j e => by cases e; simp; omega)
  · by_cases e : j = k
    · subst e
      rw [List.getElem?_set_self (by rw [h.rw.lv]; exact hk)] at hj
      cases hj
      rcases hl with hl | hl
      · have := h.nb j u hu
        rw [hl] at this
        exact this
      · subst hl
        simp only [Value.ownBlock, ne_eq, Option.some.injEq]
        omega
    · rw [List.getElem?_set_ne (Ne.symm e)] at hj
      exact h.nb j y hj
end

/-- Ahead of 'between[k] = append(between[k], pair)'. -/
structure Pk (W4 w wc : World) (B1 B2 B3 B4 R gb gt bb n m X Y fr tt k L : Nat) (item : ByteArray) (v : Value) (S : VS) (bf : List Nat) (vs : List Value) (bt bt' : List (List (Nat × Nat))) (u : Value) : Prop where
  ri : Ri W4 w wc B1 B2 B3 B4 R gb gt bb n m X Y fr tt item v S bf vs bt
  hv : ∀ b, v.ownBlock = some b → b < gt
  hW : W4.heap.size ≤ gt
  hw : w.heap.size ≤ W4.heap.size
  hk : k < n
  hu : vs[k]? = some u
  hL : (bt.getD k []).length = L
  hl : L ≤ 4096
  hb : bt' = bt.set k (bt.getD k [] ++ [(2 ^ fr, 2 ^ tt)])
theorem news_two {W : World} {Z : Nat} {p q : Value} (z0 : W.cell? ⟨Z, 0, none⟩ = some p) (z1 : W.cell? ⟨Z, 1, none⟩ = some q) : ∀ (j : Nat) (u : Value), [p, q][j]? = some u → W.cell? ((⟨Z, 0, none⟩ : Addr).add j) = some u := by
  intro j u hj
  match j, hj with
  | 0, hj => (simp at hj; subst hj; simpa [Addr.add] using z0)
  | 1, hj => (simp at hj; subst hj; simpa [Addr.add] using z1)
/-- The append, as a step of the region. -/
theorem step_pair {W4 w wc : World} {B1 B2 B3 B4 R gb gt bb n m X Y fr tt k L : Nat} {item : ByteArray} {v : Value} {S : VS} {bf : List Nat} {vs : List Value} {bt bt' : List (List (Nat × Nat))} {u : Value} (h : Pk W4 w wc B1 B2 B3 B4 R gb gt bb n m X Y fr tt k L item v S bf vs bt bt' u)
    {W : World} (g : wc.grownBy W none) {ops : Array Oper} {o : Oper} {a : Act} {K : Act → World → Prop} {Q : Exit → Act → World → Prop} {Ex : Prop} (hgd : o.guard = none) (s x : Operand)
    (ho : o.op = .call { callee := .builtin .append, args := #[s, x], argTypes := #[124, 124] }) (P0 P1 Z : Nat) (e0 : 2 ^ fr = P0) (e1 : 2 ^ tt = P1) (hs : a.eval s = u) (hx : a.eval x = .slice (some ⟨Z, 0, none⟩) 1 1) (z0 : W.cell? ⟨Z, 0, none⟩ = some (.int .u64 (P0 : Int))) (z1 : W.cell? ⟨Z, 1, none⟩ = some (.int .u64 (P1 : Int)))
    (hK : ∀ g' c' w1, Ri W4 w (w1.setCell ⟨gt, k, none⟩ (.slice (some ⟨g', 0, none⟩) (L + 1) c')) B1 B2 B3 B4 R gb gt bb n m X Y fr tt item v S bf (vs.set k (.slice (some ⟨g', 0, none⟩) (L + 1) c')) bt' → w1.cell? ⟨R, 1, none⟩ = some (.slice (some ⟨gt, 0, none⟩) n n) → w1.frozen? ⟨gt, k, none⟩ = false → w1.cell? ⟨gt, k, none⟩ = some u → R < w1.heap.size → gt < w1.heap.size → w1.cell? ⟨Y, 0, none⟩ = some (.int .u64 (P0 : Int)) → w1.cell? ⟨Y, 1, none⟩ = some (.int .u64 (P1 : Int)) → K (a.put o.dst (.slice (some ⟨g', 0, none⟩) (L + 1) c')) w1) :
    if Region.wanted o (yielded ops a.tmps) = true then Oper.wp Try.prog o a W K Q else Ex := by
  obtain ⟨ri, hv, hW, hw, hk, hu, rfl, hl, rfl⟩ := h
  subst e0 e1
  have ri := ri.grown g
  obtain ⟨i0, hi, hz0, hz1, hz2⟩ := info_parts info123
  obtain ⟨u2, ha, hown⟩ := ri.rw.el k hk
  rw [hu] at ha
  obtain rfl := Option.some.inj ha
  have hbb := ri.rw.hb
  refine step_append_lies _ hgd s x 124 ho bb 123 i0 (.agg #[.int .u64 0, .int .u64 0]) 2 16 Try.underlying124 hi hz0 hz1 hz2 rfl (by omega) u _ _ hs hown ⟨Z, 0, none⟩ 1 1 [.int .u64 ((2 ^ fr : Nat) : Int), .int .u64 ((2 ^ tt : Nat) : Int)] hx rfl (news_two z0 z1) (by intro y hy; simp only [List.mem_cons, List.not_mem_nil, or_false] at hy; rcases hy with rfl | rfl <;> rfl) (by omega) (by unfold maxLen; omega) (by omega) hbb _ rfl ?_
  intro g' c' w1 hown1 hg1 hat1 _
  have hlt : ∀ b, u.ownBlock = some b → bb ≤ b := fun b e => (hown.lt _ e).1
  have e1 := ri.rw.e1
  have e3 := ri.rw.e3
  have hR : R < W.heap.size := World.block_lt_of_cell? _ _ ri.rw.r1
  have hT : gt < W.heap.size := by omega
  have ct := ri.rw.tr.cellAt k (by omega)
  rw [hu] at ct
  have FR : w1.heap[R]? = W.heap[R]? := hg1.block R hR (fun e => by have := hlt _ e.symm; omega)
  have FT : w1.heap[gt]? = W.heap[gt]? := hg1.block gt hT (fun e => by have := hlt _ e.symm; omega)
  have hsz := hg1.size
  exact hK g' c' w1 (ri.pair hv hW hw hk hu hg1 hat1 hown1) ((World.cell?_of_block FR).trans ri.rw.r1) ((World.frozen?_of_block FT).trans (ri.rw.tr.frozenAt k)) ((World.cell?_of_block FT).trans ct) (by omega) (by omega) (hg1.cell ri.y0 (fun e => (ri.nb k u hu).2 e.symm)) (hg1.cell ri.y1 (fun e => (ri.nb k u hu).2 e.symm))
end Go.Proofs.Qxb6600752a
