import Derived.Test.Qxb6600752aRz
import Derived.Maps.RangeWalk
namespace Go.Proofs.Qxb6600752a
open Go.RowKit Go.Maps

/-- Who has a writer has a last write. -/
structure Vin (S : VS) : Prop where
  a : ∀ s, S.wr s ≠ 0 → ∃ p, S.rs.last s = some p ∧ (S.wr s).testBit p.1 = true
theorem vin_init : Vin vInit := ⟨fun _ h => absurd rfl h⟩
theorem vin_step {S S' : VS} (h : Vin S) {c : Bool} {x a : Nat} {s : ByteArray} (e : vStep S c x a s = some S') : Vin S' := by
  unfold vStep at e
  split at e
  · split at e
    · unfold vGet at e
      split at e
      · cases e
        exact ⟨h.a⟩
      · split at e
        · cases e
          exact h
        · split at e
          · cases e
          · cases e
            exact ⟨h.a⟩
    · split at e
      · cases e
        refine ⟨fun t ht => ?_⟩
        by_cases et : t = s
        · subst et
          refine ⟨(x, S.rs.cnt x t + 1), by simp [VS.put, RS.put], ?_⟩
          simp [VS.put, Nat.testBit_or]
        · obtain ⟨p, h1, h2⟩ := h.a t (by simpa [VS.put, et] using ht)
          exact ⟨p, by simpa [VS.put, RS.put, et] using h1, by simpa [VS.put, et] using h2⟩
      · cases e
        exact h
  · cases e
    exact h
theorem vin_to (es : List (Int × Nat × ByteArray)) (cm : Int → Bool) (xi : Nat → Nat) : ∀ k S, vTo es cm xi k = some S → Vin S
  | 0, S, h => by cases h; exact vin_init
  | k + 1, S, h => by
    simp only [vTo] at h
    cases hk : vTo es cm xi k with
    | none => rw [hk] at h; cases h
    | some S0 =>
      rw [hk] at h
      simp only [Option.bind_some] at h
      have ih := vin_to es cm xi k S0 hk
      split at h
      · exact vin_step ih h
      · cases h
        exact ih

/-- A block beyond the state's own turns. -/
theorem Vw.other {W4 wr : World} {B1 B2 B3 B4 bs n k : Nat} {v : Value} {S : VS} (h : Vw W4 wr B1 B2 B3 B4 bs n k v S) {w' : World} {b : Nat} (g : wr.grownBy w' (some b)) (hb : bs ≤ b) (hv : v.ownBlock ≠ some b) : Vw W4 w' B1 B2 B3 B4 bs n k v S := by
  have d12 := h.n12
  have d23 := h.n23
  have d34 := h.n34
  have d4 := h.n4
  have hs := h.hs
  refine ⟨let ⟨f, a, o⟩ := h.m1; ⟨f, a, o.kept g (by simp; omega)⟩, h.m2.kept g (by simp; omega), let ⟨f, a, o⟩ := h.m3; ⟨f, a, o.kept g (by simp; omega)⟩, let ⟨f, a, o⟩ := h.m4; ⟨f, a, o.kept g (by simp; omega)⟩, h.own.kept g (.inr hv), h.kp.grown g (fun j e => .inr (by cases e; omega)), h.ok, Nat.le_trans h.hb g.size, d12, d23, d34, d4, hs⟩

/-- The words' map as a range sees it. -/
def Dw (D : DataW Value) (c : ByteArray → Nat) : Prop := ∀ s : ByteArray, s.size ≤ maxLen → (∀ v, D.atKey (.string s.data.toList) .nil = .held v → v = .int .u64 (c s : Int) ∧ c s ≠ 0) ∧ Maps.has D (.string s.data.toList) = decide (c s ≠ 0)
theorem owns_dw {w : World} {b n : Nat} {f : Value → Option Value} {c : ByteArray → Nat} (h : OwnsM w 9 b n f) (hk : Wk c f) : ∃ D, w.ownsMap Try.prog 9 Rh b n D ∧ Dw D c := by
  obtain ⟨D, h1, h2⟩ := h
  refine ⟨D, h1, fun s hs => ?_⟩
  obtain ⟨a1, a2⟩ := h2 (.string s) _ (key9 hs)
  have e := hk s
  by_cases h0 : c s = 0
  · rw [if_pos h0] at e
    refine ⟨fun v hv => ?_, ?_⟩
    · rw [a2 e] at hv
      exact absurd hv (by simp)
    · rw [has_false_of_atKey (a2 e)]
      simp [h0]
  · rw [if_neg h0] at e
    refine ⟨fun v hv => ?_, ?_⟩
    · rw [a1 _ e] at hv
      exact ⟨(DataW.held.inj hv).symm, h0⟩
    · rw [has_true_of_atKey (a1 _ e)]
      simp [h0]
theorem keyOf_str_inv {P : Program} {k : TypeId} (hk : P.underlying k = some .string) {key : Value} {kl : Lit} (h : keyOf P k key = some kl) : ∃ s : ByteArray, key = .string s ∧ s.size ≤ maxLen ∧ kl = .string s.data.toList := by
  simp only [keyOf, mapKey, hk] at h
  cases key with
  | string s =>
    by_cases hs : s.size ≤ maxLen
    · simp only [hs, if_true] at h
      exact ⟨s, rfl, hs, (Option.some.inj h).symm⟩
    · simp only [hs, if_false] at h
      cases h
  | _ => cases h
theorem keyOf_string_inv {key : Value} {kl : Lit} (h : keyOf Try.prog 9 key = some kl) : ∃ s : ByteArray, key = .string s ∧ s.size ≤ maxLen ∧ kl = .string s.data.toList := keyOf_str_inv Try.underlying9 h
end Go.Proofs.Qxb6600752a
