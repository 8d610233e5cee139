import Derived.Test.Qxb6600752aRw
import Derived.Deep.OwnRows
namespace Go.Proofs.Qxb6600752a
open Go.RowKit Go.Maps

theorem info63 : (Try.prog.info? 63).map (fun i => (i.zero, i.size, i.bytes)) = some (some (.int .u64 0), 1, 8) := by kernel_rfl
theorem info124 : (Try.prog.info? 124).map (fun i => (i.zero, i.size, i.bytes)) = some (some (.slice none 0 0), 1, 24) := by kernel_rfl

theorem row_new {w : World} {g n : Nat} {e : TypeId} {z : Value} (hb : w.heap[g]? = some (.cells (madeCells #[z] n) e (0, 0))) (hn : n ≤ maxLen) : w.ownsRow g e 1 (.slice (some ⟨g, 0, none⟩) n n) n (List.replicate n z) := by
  refine ⟨by simp, .inr ⟨g, n, _, rfl, Nat.le_refl _, hb, Nat.le_refl _, hn, by simp [madeCells], ?_⟩⟩
  rw [toList_madeCells_one]
  simp

/-- The rules as they are made. -/
theorem rw_new {w : World} {R gb gt bb n : Nat} (r0 : w.cell? ⟨R, 0, none⟩ = some (.slice (some ⟨gb, 0, none⟩) n n)) (r1 : w.cell? ⟨R, 1, none⟩ = some (.slice (some ⟨gt, 0, none⟩) n n)) (h1 : w.heap[gb]? = some (.cells (madeCells #[.int .u64 0] n) 63 (0, 0))) (h2 : w.heap[gt]? = some (.cells (madeCells #[.slice none 0 0] n) 124 (0, 0)))
    (hn : n ≤ maxLen) (d1 : R ≠ gb) (d2 : R ≠ gt) (d3 : gb ≠ gt) (e1 : R < bb) (e2 : gb < bb) (e3 : gt < bb) (hb : bb ≤ w.heap.size) : Rw w R gb gt bb n (List.replicate n 0) (List.replicate n (.slice none 0 0)) (List.replicate n []) := by
  refine ⟨r0, r1, ?_, row_new h2 hn, fun k hk => ⟨.slice none 0 0, by simp [hk], ?_⟩, fun j k v u b hjk hv hu hvb => ?_, by simp, by simp, by simp, d1, d2, d3, e1, e2, e3, hb⟩
  · have := row_new h1 hn
    simpa [Us] using this
  · have : (List.replicate n ([] : List (Nat × Nat))).getD k [] = [] := by simp [List.getD, hk]
    rw [this]
    exact World.ownsRow_nil _ _ _ _
  · have : v = .slice none 0 0 := by
      have := List.mem_of_getElem? hv
      simp at this
      exact this.2
    subst this
    cases hvb
end Go.Proofs.Qxb6600752a
