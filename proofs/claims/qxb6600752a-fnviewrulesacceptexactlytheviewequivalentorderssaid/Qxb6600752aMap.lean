import Derived.Test.Qxb6600752aRows
import Derived.WalkKit
import Derived.WalkSpells
import Derived.WalkLawsBesides
import Derived.Deep.AppendSrc
import Derived.Maps.OwnSet
import Derived.DeepKeys4
namespace Go.Proofs.Qxb6600752a
open Go.RowKit Go.Maps

/-- An element reads as itself. -/
abbrev Rh : Value → Option (DataW Value × List MemPlace) := fun v => some (.held v, [])

/-- Block b is a map of at most n entries; f tells the entry at each key. -/
def OwnsM (w : World) (k : TypeId) (b n : Nat) (f : Value → Option Value) : Prop :=
  ∃ D : DataW Value, w.ownsMap Try.prog k Rh b n D ∧ ∀ key kl, keyOf Try.prog k key = some kl → (∀ v, f key = some v → ∀ z, D.atKey kl z = .held v) ∧ (f key = none → ∀ z, D.atKey kl z = z)

theorem OwnsM.made (w : World) (k : TypeId) : OwnsM (w.alloc (.map #[] 0)) k w.heap.size 0 (fun _ => none) :=
  ⟨_, World.ownsMap_made w Try.prog k Rh, fun key kl _ => ⟨fun v h => (by cases h), fun _ z => rfl⟩⟩
theorem OwnsM.lt {w : World} {k : TypeId} {b n : Nat} {f : Value → Option Value} (h : OwnsM w k b n f) : b < w.heap.size := let ⟨_, h, _⟩ := h; h.lt
theorem OwnsM.kept {w w' : World} {k : TypeId} {b n : Nat} {f : Value → Option Value} {row : Option Nat} (h : OwnsM w k b n f) (g : w.grownBy w' row) (hne : some b ≠ row) : OwnsM w' k b n f :=
  let ⟨D, h1, h2⟩ := h; ⟨D, h1.kept g hne, h2⟩
theorem OwnsM.setCell {w : World} {k : TypeId} {b n : Nat} {f : Value → Option Value} (h : OwnsM w k b n f) {a : Addr} (ha : b ≠ a.block) (u : Value) : OwnsM (w.setCell a u) k b n f :=
  let ⟨D, h1, h2⟩ := h; ⟨D, h1.setCell ha u, h2⟩
theorem OwnsM.mono {w : World} {k : TypeId} {b n m : Nat} {f : Value → Option Value} (h : OwnsM w k b n f) (hn : n ≤ m) : OwnsM w k b m f :=
  let ⟨D, h1, h2⟩ := h; ⟨D, h1.mono hn, h2⟩

/-- m[k] -/
theorem OwnsM.look {w : World} {t e k : TypeId} {b n : Nat} {f : Value → Option Value} (h : OwnsM w k b n f) (K : Keyed Try.prog k) (ht : Try.prog.underlying t = some (.map k e)) {z : Value} (hz : (zeroValue e).run Try.prog w = .ok z w)
    {key : Value} {kl : Lit} (hkey : keyOf Try.prog k key = some kl) : (Instr.lookup t (.map (some b)) key false).run Try.prog w = .ok ((f key).getD z) w := by
  obtain ⟨D, h1, h2⟩ := h
  obtain ⟨v, ps, hrun, hv⟩ := h1.lookup K ht hz (zd := .held z) (zp := []) rfl hkey
  obtain ⟨h3, h4⟩ := h2 key kl hkey
  simp only [Rh, Option.some.injEq, Prod.mk.injEq] at hv
  cases hf : f key with
  | none => rw [h4 hf] at hv; simp only [DataW.held.injEq] at hv; rw [hrun, hv.1]; rfl
  | some u => rw [h3 u hf] at hv; simp only [DataW.held.injEq] at hv; rw [hrun, hv.1]; rfl

/-- v, ok := m[k] -/
theorem OwnsM.lookOk {w : World} {t e k : TypeId} {b n : Nat} {f : Value → Option Value} (h : OwnsM w k b n f) (K : Keyed Try.prog k) (ht : Try.prog.underlying t = some (.map k e)) {z : Value} (hz : (zeroValue e).run Try.prog w = .ok z w)
    {key : Value} {kl : Lit} (hkey : keyOf Try.prog k key = some kl) : (Instr.lookup t (.map (some b)) key true).run Try.prog w = .ok (.tuple #[(f key).getD z, .bool (f key).isSome]) w := by
  obtain ⟨D, h1, h2⟩ := h
  obtain ⟨v, ps, hrun, hv⟩ := h1.look_ok K ht hz (zd := .held z) (zp := []) rfl hkey
  obtain ⟨h3, h4⟩ := h2 key kl hkey
  simp only [Rh, Option.some.injEq, Prod.mk.injEq] at hv
  cases hf : f key with
  | none => rw [h4 hf] at hv; simp only [DataW.held.injEq] at hv; rw [hrun, hv.1, has_false_of_atKey (h4 hf)]; rfl
  | some u => rw [h3 u hf] at hv; simp only [DataW.held.injEq] at hv; rw [hrun, hv.1, has_true_of_atKey (h3 u hf)]; rfl

/-- m[k] = v -/
theorem OwnsM.store {w : World} {t e k : TypeId} {b n : Nat} {f : Value → Option Value} (h : OwnsM w k b n f) (K : Keyed Try.prog k) (ht : Try.prog.underlying t = some (.map k e)) (hn : n < maxLen) {key : Value} {kl : Lit} (val : Value)
    (hkey : keyOf Try.prog k key = some kl) : ∃ w', (Instr.mapUpdate t (.map (some b)) key val).run Try.prog w = .ok () w' ∧ w.grownBy w' (some b) ∧
      ∀ f' : Value → Option Value, f' key = some val → (∀ key' kl', keyOf Try.prog k key' = some kl' → key' ≠ key → f' key' = f key') → OwnsM w' k b (n + 1) f' := by
  obtain ⟨D, h1, h2⟩ := h
  obtain ⟨w', hrun, h3, h4⟩ := h1.update K ht hn hkey (val := val) (d := .held val) (ps := []) rfl
  refine ⟨w', hrun, h4, fun f' hf1 hf2 => ⟨_, h3, fun key' kl' hk' => ?_⟩⟩
  by_cases e : key' = key
  · subst e
    rw [hkey] at hk'
    cases hk'
    have := atKey_put_same h1.isMap (K.key hkey) (.held val)
    refine ⟨fun v hv z => ?_, fun h => by rw [hf1] at h; cases h⟩
    rw [hf1] at hv
    cases hv
    exact this z
  · have hne : kl' ≠ kl := fun e2 => e (K.inj hk' (by rw [e2]; exact hkey))
    obtain ⟨h5, h6⟩ := h2 key' kl' hk'
    rw [hf2 key' kl' hk' e]
    exact ⟨fun v hv z => (atKey_put_other hne _ z).trans (h5 v hv z), fun hv z => (atKey_put_other hne _ z).trans (h6 hv z)⟩
end Go.Proofs.Qxb6600752a
