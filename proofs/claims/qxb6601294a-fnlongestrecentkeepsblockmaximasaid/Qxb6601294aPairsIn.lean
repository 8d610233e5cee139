/- A slice of I128 that came in can be read. -/
import Derived.Test.Qxb6601294aLrPlain
import Derived.ProofKit
import Derived.OpenShut
import Derived.ChangeOld
import Derived.Deep.SlicePairs
namespace Go.Proofs.Qxb6601294a
open Go.ChangeShapes Go.WideShapes Go.ChangeAt Go.RowKit

theorem cells43 : Try.prog.cellsOf 43 = 2 := by kernel_rfl
theorem cells2 : Try.prog.cellsOf 2 = 1 := by kernel_rfl
theorem cells38 : Try.prog.cellsOf 38 = 1 := by kernel_rfl

theorem pairs_in {H : Type} {enc : TypeId × Value → H} {W : World} {a : Option Addr} {len cap : Nat} {d : DataW H} {p : List MemPlace} (h : DataW.Trod enc Try.prog W 0 (fun _ => true) true 34 (.slice a len cap) d p) :
    ∃ ps : List (Int × Int), Rp W (.slice a len cap) ps ∧ ps.length = len ∧ len ≤ maxLen := by
  obtain ⟨fuel, hf⟩ := h
  rcases Go.Deep.open_slice_pairs Try.underlying34 Try.underlying43 cells43 rfl rfl cells2 cells38 hf with ⟨hcs, _⟩ | ⟨x, l, c, m, n, V0, V1, D0, D1, P0, P1, hcs, _, hl, hm, hmm, _, hx⟩
  · simp [Value.cells] at hcs
    obtain ⟨rfl, rfl, rfl⟩ := hcs
    exact ⟨[], ⟨none, 0, rfl, Nat.le_refl _, Nat.zero_le _, fun _ => rfl, .inl rfl⟩, rfl, Nat.zero_le _⟩
  · simp [Value.cells] at hcs
    obtain ⟨rfl, rfl, rfl⟩ := hcs
    have hmc : m = cap := by simpa using hmm
    subst hmc
    have hb : ∀ i, i < m → ∃ q : Int × Int, V0 i = .int .i64 q.1 ∧ V1 i = .int .u64 q.2 := fun i hi => by
      obtain ⟨n0, h1, _⟩ := DataW.trod_int Try.underlying2 (hx i hi).2.2.1
      obtain ⟨n1, h2, _⟩ := DataW.trod_int Try.underlying38 (hx i hi).2.2.2
      exact ⟨(n0, n1), by simpa using h1, by simpa using h2⟩
    let ps : List (Int × Int) := (List.range len).map fun i => (match V0 i with | .int _ n => n | _ => 0, match V1 i with | .int _ n => n | _ => 0)
    have hbl : ps.length = len := by simp [ps]
    refine ⟨ps, ⟨some x, m, by simp [hbl], by simp [hbl]; omega, hm, fun h => by simp at h, ?_⟩, hbl, by omega⟩
    by_cases h0 : len = 0
    · exact .inl (by simp [hbl, h0])
    · obtain ⟨b, o, sp⟩ := x
      have hsp : sp = none := by simpa [Addr.add] using World.cell?_spot (hx 0 (by omega)).1
      subst hsp
      refine .inr ⟨b, o, rfl, fun i hi => ?_⟩
      have hlt : i < len := by omega
      obtain ⟨q, hq0, hq1⟩ := hb i (by omega)
      have h1 := (hx i (by omega)).1
      have h2 := (hx i (by omega)).2.1
      rw [Addr.add_lit, hq0] at h1
      rw [Addr.add_lit, hq1] at h2
      have hg : ps.getD i (0, 0) = q := by simp [ps, List.getD, hlt, hq0, hq1]
      rw [hg]
      exact ⟨h1, by rw [Nat.add_assoc]; exact h2⟩
end Go.Proofs.Qxb6601294a
