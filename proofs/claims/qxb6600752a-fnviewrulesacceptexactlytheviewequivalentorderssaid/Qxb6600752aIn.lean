import Derived.Test.Qxb6600752aLa
import Derived.ProofKit
import Derived.OpenShut
import Derived.ChangeOld
import Derived.Deep.Slices
namespace Go.Proofs.Qxb6600752a
open Go.ChangeShapes Go.WideShapes Go.ChangeAt Go.RowKit

theorem in_cells5 : Try.prog.cellsOf 5 = 1 := by kernel_rfl
theorem in_cells2 : Try.prog.cellsOf 2 = 1 := by kernel_rfl
theorem in_cells9 : Try.prog.cellsOf 9 = 1 := by kernel_rfl

/-- A slice whose elements are one cell each, that came in, can be read: f tells the elements. -/
theorem row_in {α : Type} {H : Type} {enc : TypeId × Value → H} {W : World} {t e : TypeId} (ht : Try.prog.underlying t = some (.slice e)) (hc : Try.prog.cellsOf e = 1) (f : α → Value) (d0 : α) (Ok : α → Prop)
    (hf1 : ∀ (fuel : Nat) (v : Value) (x : DataW H × List MemPlace), DataW.trod enc Try.prog W 0 (fun _ => true) true fuel e [v] = some x → ∃ a, v = f a ∧ Ok a)
    {a : Option Addr} {len cap : Nat} {d : DataW H} {p : List MemPlace} (h : DataW.Trod enc Try.prog W 0 (fun _ => true) true t (.slice a len cap) d p) :
    ∃ bs : List α, Rv W (.slice a len cap) (bs.map f) ∧ bs.length = len ∧ len ≤ maxLen ∧ ∀ b ∈ bs, Ok b := by
  obtain ⟨fuel, hf⟩ := h
  rcases Go.Deep.open_slice1 ht hc hf with ⟨hcs, _⟩ | ⟨x, l, c, m, n, V, D, Pl, hcs, _, hl, hm, hmm, _, hx⟩
  · simp [Value.cells] at hcs
    obtain ⟨rfl, rfl, rfl⟩ := hcs
    exact ⟨[], ⟨none, 0, rfl, Nat.le_refl _, Nat.zero_le _, fun _ => rfl, .inl rfl⟩, rfl, Nat.zero_le _, fun b hb => by simp at hb⟩
  · simp [Value.cells] at hcs
    obtain ⟨rfl, rfl, rfl⟩ := hcs
    have hmc : m = cap := by simpa using hmm
    subst hmc
    have hb : ∀ i, i < m → ∃ b, V i = f b ∧ Ok b := fun i hi => hf1 _ _ _ (hx i hi).2
    have hch : ∀ i, ∃ b, i < m → V i = f b ∧ Ok b := fun i => by
      by_cases hi : i < m
      · obtain ⟨b, h1, h2⟩ := hb i hi
        exact ⟨b, fun _ => ⟨h1, h2⟩⟩
      · exact ⟨d0, fun h => absurd h hi⟩
    obtain ⟨g, hg⟩ := Classical.axiomOfChoice hch
    refine ⟨(List.range len).map g, ⟨some x, m, by simp, by simp; omega, hm, fun h => by simp at h, ?_⟩, by simp, by omega, fun b hb => ?_⟩
    · by_cases h0 : len = 0
      · exact .inl (by simp [h0])
      · obtain ⟨b, o, sp⟩ := x
        have hsp : sp = none := by simpa [Addr.add] using World.cell?_spot (hx 0 (by omega)).1
        subst hsp
        refine .inr ⟨b, o, rfl, fun i u hi => ?_⟩
        have hlt : i < len := by have := (List.getElem?_eq_some_iff.1 hi).1; simpa using this
        have h1 := (hx i (by omega)).1
        rw [Addr.add_lit, (hg i (by omega)).1] at h1
        rw [h1]
        simp [hlt] at hi
        rw [← hi]
    · rw [List.mem_map] at hb
      obtain ⟨i, hi, rfl⟩ := hb
      have hi2 := List.mem_range.1 hi
      exact (hg i (by omega)).2

theorem bytes_in {H : Type} {enc : TypeId × Value → H} {W : World} {a : Option Addr} {len cap : Nat} {d : DataW H} {p : List MemPlace} (h : DataW.Trod enc Try.prog W 0 (fun _ => true) true 23 (.slice a len cap) d p) :
    ∃ us : List Nat, Rv W (.slice a len cap) ((us.map fun (u : Nat) => (u : Int)).map (Value.int .u8)) ∧ us.length = len ∧ len ≤ maxLen ∧ ∀ u ∈ us, u < 256 := by
  have := row_in (α := Nat) Try.underlying23 in_cells5 (fun u : Nat => Value.int .u8 (u : Int)) 0 (fun u => u < 256) (fun fuel v x hx => by
    obtain ⟨z, h1, h2, h3⟩ := DataW.trod_int Try.underlying5 hx
    have hz : 0 ≤ z ∧ z < 256 := by
      have := h3
      simp [Lit.wf, IntKind.min, IntKind.max, IntKind.bits, IntKind.signed] at this
      omega
    refine ⟨z.toNat, ?_, by omega⟩
    have e : ((z.toNat : Nat) : Int) = z := by omega
    rw [e]
    simpa using h1) h
  simpa [List.map_map, Function.comp_def] using this
theorem ints_in {H : Type} {enc : TypeId × Value → H} {W : World} {a : Option Addr} {len cap : Nat} {d : DataW H} {p : List MemPlace} (h : DataW.Trod enc Try.prog W 0 (fun _ => true) true 22 (.slice a len cap) d p) :
    ∃ zs : List Int, Rv W (.slice a len cap) (zs.map (Value.int .i64)) ∧ zs.length = len ∧ len ≤ maxLen ∧ ∀ z ∈ zs, (Lit.int .i64 z).wf = true :=
  row_in (α := Int) Try.underlying22 in_cells2 (Value.int .i64) 0 (fun z => (Lit.int .i64 z).wf = true) (fun fuel v x hx => by
    obtain ⟨z, h1, h2, h3⟩ := DataW.trod_int Try.underlying2 hx
    exact ⟨z, by simpa using h1, h3⟩) h
theorem strs_in {H : Type} {enc : TypeId × Value → H} {W : World} {a : Option Addr} {len cap : Nat} {d : DataW H} {p : List MemPlace} (h : DataW.Trod enc Try.prog W 0 (fun _ => true) true 24 (.slice a len cap) d p) :
    ∃ ss : List ByteArray, Rv W (.slice a len cap) (ss.map Value.string) ∧ ss.length = len ∧ len ≤ maxLen ∧ ∀ s ∈ ss, s.size ≤ maxLen :=
  row_in (α := ByteArray) Try.underlying24 in_cells9 Value.string ByteArray.empty (fun s => s.size ≤ maxLen) (fun fuel v x hx => by
    obtain ⟨s, h1, h2, h3⟩ := DataW.trod_string Try.underlying9 hx
    exact ⟨s, by simpa using h1, h3⟩) h
theorem rv_irow {w : World} {a : Option Addr} {n c : Nat} {zs : List Int} (h : Rv w (.slice a n c) (zs.map (Value.int .i64))) : IRow w a zs := by
  obtain ⟨a', cap, hv, _, _, _, hx⟩ := h
  obtain ⟨rfl, -, -⟩ := Value.slice.inj hv
  exact hx.imp (by simp) fun ⟨b, o, h1, h2⟩ => ⟨b, o, h1, fun i hi => h2 i _ (by simp [hi])⟩
theorem rv_urow {w : World} {a : Option Addr} {n c : Nat} {us : List Nat} (h : Rv w (.slice a n c) ((us.map fun (u : Nat) => (u : Int)).map (Value.int .u8))) : URow w a us := by
  obtain ⟨a', cap, hv, _, _, _, hx⟩ := h
  obtain ⟨rfl, -, -⟩ := Value.slice.inj hv
  exact hx.imp (by simp) fun ⟨b, o, h1, h2⟩ => ⟨b, o, h1, fun i hi => h2 i _ (by simp [hi])⟩
theorem rv_srow {w : World} {a : Option Addr} {n c : Nat} {ss : List ByteArray} (h : Rv w (.slice a n c) (ss.map Value.string)) : SRow w a ss := by
  obtain ⟨a', cap, hv, _, _, _, hx⟩ := h
  obtain ⟨rfl, -, -⟩ := Value.slice.inj hv
  exact hx.imp (by simp) fun ⟨b, o, h1, h2⟩ => ⟨b, o, h1, fun i hi => h2 i _ (by simp [hi])⟩

/-- The walk, as the frame wants it. -/
theorem law_in (a0 a1 a2 a3 a4 : Option Addr) (n0 c0 n1 c1 n2 c2 n3 c3 n4 c4 : Nat) (ts : List Int) (ev ac : List Nat) (ss : List ByteArray) (pm : List Nat) (w : World) (e0 : ts.length = n0) (e1 : ev.length = n1) (e2 : ac.length = n2) (e3 : ss.length = n3) (e4 : pm.length = n4)
    (r0 : Rv w (.slice a0 n0 c0) (ts.map (Value.int .i64))) (r1 : Rv w (.slice a1 n1 c1) ((ev.map fun (u : Nat) => (u : Int)).map (Value.int .u8))) (r2 : Rv w (.slice a2 n2 c2) ((ac.map fun (u : Nat) => (u : Int)).map (Value.int .u8))) (r3 : Rv w (.slice a3 n3 c3) (ss.map Value.string)) (r4 : Rv w (.slice a4 n4 c4) ((pm.map fun (u : Nat) => (u : Int)).map (Value.int .u8)))
    (m0 : n0 ≤ maxLen) (m1 : n1 ≤ maxLen) (m2 : n2 ≤ maxLen) (m3 : n3 ≤ maxLen) (m4 : n4 ≤ maxLen) (hz : ∀ z ∈ ts, (Lit.int .i64 z).wf = true) (hu1 : ∀ u ∈ ev, u < 256) (hu2 : ∀ u ∈ ac, u < 256) (hu4 : ∀ u ∈ pm, u < 256) (hs : ∀ s ∈ ss, s.size ≤ maxLen) :
    Calls Try.prog 4 #[.slice a0 n0 c0, .slice a1 n1 c1, .slice a2 n2 c2, .slice a3 n3 c3, .slice a4 n4 c4] w fun e w' => e = .returned (.bool true) ∧ Below w.heap.size w w' := by
  subst e0 e1 e2 e3 e4
  refine (law_any a0 a1 a2 a3 a4 c0 c1 c2 c3 c4 ts ev ac ss pm w r0 r1 r2 r3 r4 (rv_irow r0) (rv_srow r3) (rv_urow r4) m0 m1 m2 m3 m4 hz hu1 hu2 hu4 hs).mono ?_
  rintro e w' ⟨b, rfl, rfl, g⟩
  exact ⟨rfl, grownBy_below g⟩
end Go.Proofs.Qxb6600752a
