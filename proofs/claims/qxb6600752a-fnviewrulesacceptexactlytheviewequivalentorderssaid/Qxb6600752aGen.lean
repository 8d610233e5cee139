import Derived.Test.Qxb6600752aMap
import Derived.Test.Qxb6600752aLaws
import Derived.Deep.RegionHeld3
import Derived.Deep.AppendLies
import Derived.Deep.RegionLaw
import Derived.Deep.DeepCutAuto
import Derived.Deep.CutRange
namespace Go.Proofs.Qxb6600752a
open Go.RowKit Go.Maps

theorem grownBy_setCell (w : World) (a : Addr) (u : Value) : w.grownBy (w.setCell a u) (some a.block) :=
  ⟨rfl, rfl, rfl, by simp, fun k _ hne => Below.heap_setCell _ _ _ _ (fun e => hne (by rw [e]))⟩
theorem cell_far (w : World) (a b : Addr) (u : Value) (h : a.block ≠ b.block ∨ a.off ≠ b.off) : (w.setCell a u).cell? b = w.cell? b :=
  World.cell?_setCell_other _ _ _ _ (by rintro rfl; simp at h)
/-- Outside the blocks S the old memory is as it was. -/
structure Kp (w w' : World) (S : Nat → Prop) : Prop where
  os : w'.os = w.os
  tape : w'.tape = w.tape
  output : w'.output = w.output
  size : w.heap.size ≤ w'.heap.size
  block : ∀ k, k < w.heap.size → ¬ S k → w'.heap[k]? = w.heap[k]?
theorem Kp.refl (w : World) (S : Nat → Prop) : Kp w w S := ⟨rfl, rfl, rfl, Nat.le_refl _, fun _ _ _ => rfl⟩
theorem Kp.drewN {w w1 : World} {S : Nat → Prop} (h : Kp w w1 S) (n : Nat) : Kp w (w1.drewN n) S := ⟨h.os, h.tape, h.output, h.size, h.block⟩
theorem Kp.drew {w w1 : World} {S : Nat → Prop} (h : Kp w w1 S) : Kp w w1.drew S := ⟨h.os, h.tape, h.output, h.size, h.block⟩
theorem Kp.setCell {w w1 : World} {S : Nat → Prop} (h : Kp w w1 S) {a : Addr} (ha : S a.block ∨ w.heap.size ≤ a.block) (u : Value) : Kp w (w1.setCell a u) S :=
  ⟨h.os, h.tape, h.output, by simpa using h.size, fun k hk hS => by
    rw [Below.heap_setCell _ _ _ _ (fun e => by subst e; rcases ha with ha | ha; exact hS ha; omega)]; exact h.block k hk hS⟩
theorem Kp.grown {w w1 w2 : World} {S : Nat → Prop} {row : Option Nat} (h : Kp w w1 S) (hg : w1.grownBy w2 row) (hr : ∀ k, row = some k → S k ∨ w.heap.size ≤ k) : Kp w w2 S :=
  ⟨hg.os.trans h.os, hg.tape.trans h.tape, hg.output.trans h.output, Nat.le_trans h.size hg.size, fun k hk hS =>
    (hg.block k (Nat.lt_of_lt_of_le hk h.size) (fun e => by rcases hr k e.symm with h1 | h1; exact hS h1; omega)).trans (h.block k hk hS)⟩

theorem Kp.weak {w w' : World} {S T : Nat → Prop} (h : Kp w w' S) (hs : ∀ k, S k → T k) : Kp w w' T := ⟨h.os, h.tape, h.output, h.size, fun k hk hT => h.block k hk (fun e => hT (hs k e))⟩
/-- A slice value that is read: its cells are xs (an element is one cell). -/
def Rv (w : World) (v : Value) (xs : List Value) : Prop :=
  ∃ a cap, v = .slice a xs.length cap ∧ xs.length ≤ cap ∧ cap ≤ maxLen ∧ (a = none → cap = 0) ∧
    (xs.length = 0 ∨ ∃ b o, a = some ⟨b, o, none⟩ ∧ ∀ i x, xs[i]? = some x → w.cell? ⟨b, o + i, none⟩ = some x)
theorem rv_grown {w w' : World} {v : Value} {xs : List Value} (h : Rv w v xs) (hg : w.grownBy w' none) : Rv w' v xs := by
  obtain ⟨a, cap, rfl, h1, hm, hn, hx⟩ := h
  exact ⟨a, cap, rfl, h1, hm, hn, hx.elim .inl fun ⟨b, o, h1, h2⟩ => .inr ⟨b, o, h1, fun i x hi => grownBy_cell hg (h2 i x hi)⟩⟩
theorem rv_of_owns {w : World} {base : Nat} {e : TypeId} {v : Value} {xs : List Value} {n : Nat} (h : w.ownsRow base e 1 v n xs) : Rv w v xs := by
  have hn : xs.length = n := by simpa using h.1
  subst hn
  rcases h.2 with ⟨rfl, h0⟩ | ⟨g, cap, cur, rfl, hb, hg, hc, hm, hs, ht⟩
  · exact ⟨none, 0, by rw [h0], by omega, by simp, fun _ => rfl, .inl h0⟩
  · refine ⟨_, cap, rfl, hc, hm, fun h => by simp at h, .inr ⟨g, 0, rfl, fun i x hi => ?_⟩⟩
    have hlt := (List.getElem?_eq_some_iff.1 hi).1
    rw [Nat.zero_add, h.cellAt i (by omega), hi]
theorem owns_grown {w w' : World} {base : Nat} {e : TypeId} {size : Nat} {v : Value} {n : Nat} {xs : List Value} (h : w.ownsRow base e size v n xs) (hg : w.grownBy w' none) : w'.ownsRow base e size v n xs := by
  refine h.kept hg ?_
  cases v.ownBlock <;> simp

/-- The first k cells copied, the rest z. -/
def mixV (z : Value) (xs : List Value) (k : Nat) : List Value := xs.take k ++ List.replicate (xs.length - k) z
theorem mixV_zero (z : Value) (xs : List Value) : mixV z xs 0 = List.replicate xs.length z := by simp [mixV]
theorem mixV_end (z : Value) (xs : List Value) : mixV z xs xs.length = xs := by simp [mixV]
theorem mixV_step (z : Value) (xs : List Value) (k : Nat) (h : k < xs.length) : (mixV z xs k).set k xs[k] = mixV z xs (k + 1) := by
  unfold mixV
  have e : xs.length - k = (xs.length - (k + 1)) + 1 := by omega
  rw [e, List.replicate_succ, List.set_append_right _ _ (by simp; omega)]
  have e2 : k - (xs.take k).length = 0 := by simp; omega
  rw [e2, List.set_cons_zero, List.take_succ_eq_append_getElem h, List.append_assoc]
  rfl
theorem mixV_at (z : Value) (xs : List Value) (k : Nat) (h : k < xs.length) : (mixV z xs k)[k]? = some z := by
  unfold mixV
  have e : xs.length - k = (xs.length - (k + 1)) + 1 := by omega
  rw [List.getElem?_append_right (by simp; omega), e, List.replicate_succ]
  have e2 : k - (xs.take k).length = 0 := by simp; omega
  rw [e2]; rfl

theorem grown_alloc {w w1 : World} (h : w.grownBy w1 none) (o : Obj) : w.grownBy (w1.alloc o) none := grownBy_trans h (World.grownBy_alloc _ _ none) (.inl rfl)
theorem grown_drew {w w1 : World} (h : w.grownBy w1 none) : w.grownBy w1.drew none := grownBy_trans h (grownBy_drew _ none) (.inl rfl)
theorem grown_set {w w1 : World} (h : w.grownBy w1 none) {a : Addr} (ha : w.heap.size ≤ a.block) (u : Value) : w.grownBy (w1.setCell a u) none :=
  grownBy_trans h (grownBy_setCell w1 a u) (.inr fun k hk => by cases hk; exact ha)
theorem cell_one {w : World} {a : Addr} {v : Value} (h : w.cell? a = some v) (o : Obj) : (w.alloc o).cell? a = some v := grownBy_cell (World.grownBy_alloc w o none) h
theorem kp_trans {w w1 w2 : World} {S : Nat → Prop} (h : Kp w w1 S) (g : Kp w1 w2 S) : Kp w w2 S :=
  ⟨g.os.trans h.os, g.tape.trans h.tape, g.output.trans h.output, Nat.le_trans h.size g.size, fun k hk hS => (g.block k (Nat.lt_of_lt_of_le hk h.size) hS).trans (h.block k hk hS)⟩
theorem owns_other {w : World} {base : Nat} {e : TypeId} {size n : Nat} {v : Value} {xs : List Value} (h : w.ownsRow base e size v n xs) (a : Addr) (u : Value) (hne : v.ownBlock ≠ some a.block) : (w.setCell a u).ownsRow base e size v n xs :=
  h.kept (grownBy_setCell w a u) (.inr hne)
theorem cell_drew {w : World} {a : Addr} {v : Value} (h : w.cell? a = some v) : w.drew.cell? a = some v := h
theorem cell_set {w : World} {a b : Addr} {u v : Value} (h : w.cell? b = some v) (hn : a.block ≠ b.block) : (w.setCell a u).cell? b = some v := (cell_far w a b u (.inl hn)).trans h
end Go.Proofs.Qxb6600752a
