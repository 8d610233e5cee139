/- The statement FnBitWindowHoldsTheLatestItemsInOrderSaid: the guide's frame at (int, a slice of bools), the walk out of Qxb6601294aHold. -/
import Derived.Test.Qxb6601294aHold
import Derived.Test.Qxb6601294aHead
import Derived.ProofKit
import Derived.OpenShut
import Derived.ChangeOld
import Derived.Deep.Slices
namespace Go.Proofs.Qxb6601294a.fnBitWindowHoldsTheLatestItemsInOrder
open Go.ChangeShapes Go.WideShapes Go.ChangeAt Go.RowKit
set_option linter.unusedVariables false

theorem own : ownKnob Try.prog.godebug = none := by kernel_rfl
theorem laidOut : laidOutB Try.prog = true := by kernel_rfl
theorem cells4 : Try.prog.cellsOf 4 = 1 := by kernel_rfl

/-- A slice of bools that came in can be read. -/
theorem bools_in {H : Type} {enc : TypeId × Value → H} {W : World} {a : Option Addr} {len cap : Nat} {d : DataW H} {p : List MemPlace} (h : DataW.Trod enc Try.prog W 0 (fun _ => true) true 26 (.slice a len cap) d p) :
    ∃ bs : List Bool, Rv W (.slice a len cap) (bs.map Value.bool) ∧ bs.length = len ∧ len ≤ maxLen := by
  obtain ⟨fuel, hf⟩ := h
  rcases Go.Deep.open_slice1 Try.underlying26 cells4 hf with ⟨hcs, _⟩ | ⟨x, l, c, m, n, V, D, Pl, hcs, _, hl, hm, hmm, _, hx⟩
  · simp [Value.cells] at hcs
    obtain ⟨rfl, rfl, rfl⟩ := hcs
    exact ⟨[], ⟨none, 0, rfl, Nat.le_refl _, Nat.zero_le _, fun _ => rfl, .inl rfl⟩, rfl, Nat.zero_le _⟩
  · simp [Value.cells] at hcs
    obtain ⟨rfl, rfl, rfl⟩ := hcs
    have hmc : m = cap := by simpa using hmm
    subst hmc
    have hb : ∀ i, i < m → ∃ b, V i = .bool b := fun i hi => by
      obtain ⟨b, h1, _⟩ := DataW.trod_bool Try.underlying4 (hx i hi).2
      exact ⟨b, by simpa using h1⟩
    let bs : List Bool := (List.range len).map fun i => match V i with | .bool b => b | _ => false
    have hbl : bs.length = len := by simp [bs]
    refine ⟨bs, ⟨some x, m, by simp [hbl], by simp [hbl]; omega, hm, fun h => by simp at h, ?_⟩, hbl, by omega⟩
    by_cases h0 : len = 0
    · exact .inl (by simp [hbl, h0])
    · obtain ⟨b, o, sp⟩ := x
      have hsp : sp = none := by simpa [Addr.add] using World.cell?_spot (hx 0 (by omega)).1
      subst hsp
      refine .inr ⟨b, o, rfl, fun i u hi => ?_⟩
      have hlt : i < len := by have := (List.getElem?_eq_some_iff.1 hi).1; simpa [hbl] using this
      obtain ⟨b', hb'⟩ := hb i (by omega)
      have h1 := (hx i (by omega)).1
      rw [Addr.add_lit, hb'] at h1
      rw [h1]
      simp [bs, hlt, hb'] at hi
      rw [← hi]

set_option maxRecDepth 100000 in
theorem lifted (os : Os) (started : os.Started) (H : Type) (enc : TypeId × Value → H) :
    ReturnsInHanded {} Try.checked os 5 .any (Rows.fnBitWindowHoldsTheLatestItemsInOrderSpec.pre6 enc Try.prog Try.f5 Rows.fnBitWindowHoldsTheLatestItemsInOrderRow.domain false) (Rows.fnBitWindowHoldsTheLatestItemsInOrderSpec.post enc Try.prog Try.f5 false true false false) := by
  refine returnsInHanded_of_change (C := Try.checked) own started (by kernel_rfl) Try.func5
    (ChangeSpec.witness6 (enc := enc) (C := Try.checked) false ⟨#[], #[.int .i64 0, .slice none 0 0], []⟩ 8 (by kernel_rfl) (by kernel_rfl) (by kernel_rfl) (by kernel_rfl)) ?_
  intro W base args ds gs before hval0 hW hcnd _
  have hval : ∀ (j : Nat) t v, Try.f5.params[j]? = some t → args[j]? = some v → Value.okWide Try.prog W .any base t v := hval0
  have hW' := hW
  obtain ⟨p, q, hA0, hV, rfl, hfz, hnd⟩ := hW
  have hA : DataW.TrodAll enc Try.prog W 0 (fun _ => true) true Try.f5.params.toList args.toList ds p := hA0
  rw [Try.params5] at hA hval
  obtain ⟨v0, vs0, d0, ds0, p0, q0, hargs, rfl, rfl, h0, r0⟩ := trodAll_cons hA
  obtain ⟨v1, vs1, d1, ds1, p1, q1, rfl, rfl, rfl, h1, r1⟩ := trodAll_cons r0
  obtain ⟨rfl, rfl, rfl⟩ := trodAll_nil r1
  obtain rfl : args = #[v0, v1] := by cases args; simp_all
  obtain ⟨rfl, rfl⟩ := trodVars_none hV
  obtain ⟨a0, rfl, rfl, rfl, w0⟩ := open_int Try.underlying3 (hval 0 3 v0 rfl rfl) h0
  obtain ⟨a1, len1, cap1, rfl⟩ := okWide_slice Try.underlying26 (hval 1 26 v1 rfl rfl)
  have k1 := h1
  have lt1 : ∀ x ∈ p1, x.block < W.heap.size := by obtain ⟨m, hm⟩ := k1; exact DataW.trod_lt m _ _ _ hm
  obtain ⟨bs, w1, l1, m1⟩ := bools_in h1
  have b0 := bounds_i64 w0
  clear hA0 hval0
  refine (hold_walk a0 _ bs W a1 cap1 (by rw [l1]) w1 (by omega) b0.2).mono fun e W' ⟨he, bel⟩ => ?_
  subst he
  exact ⟨_, rfl, _, _, _, [], _, [], hW', trodAll_mk1 (shut_bool Try.underlying4 _), (trodAll_cons_mk (shut_int Try.underlying3 w0) (trodAll_cons_mk (Below.trod laidOut (by kernel_rfl) (of_decide_eq_true (by kernel_rfl)) k1 bel lt1) trodAll_mk0)), rfl, bel.frame _, fun h => by cases h⟩

theorem c_facts : joinedFacts Try.prog 5 Try.f5 Rows.fnBitWindowHoldsTheLatestItemsInOrderSpec Rows.fnBitWindowHoldsTheLatestItemsInOrderRow = true := by
  unfold joinedFacts
  rw [may_enter, lifts_final, make_is]
  kernel_rfl
theorem c_named : Try.pinned.checked.prog.funcNamed Rows.fnBitWindowHoldsTheLatestItemsInOrderRow.func = some 5 := by kernel_rfl
theorem c_inst : Try.f5.isInstance Try.pinned.checked.prog Rows.fnBitWindowHoldsTheLatestItemsInOrderRow.origin Rows.fnBitWindowHoldsTheLatestItemsInOrderRow.targs := of_decide_eq_true (by kernel_rfl)
theorem c_wrap : Try.f5.isWrapper Try.pinned.checked.prog Rows.fnBitWindowHoldsTheLatestItemsInOrderRow.wrapper Rows.fnBitWindowHoldsTheLatestItemsInOrderRow.mainSum := by
  unfold Func.isWrapper
  first | (rw [if_pos (by decide +kernel)]; kernel_rfl) | (rw [if_neg (by decide +kernel)]; exact ⟨rfl, rfl⟩)

theorem over : Rows.fnBitWindowHoldsTheLatestItemsInOrderRow.holds Try.pinned (OpenSpec.ofChange Rows.fnBitWindowHoldsTheLatestItemsInOrderSpec) :=
  OpenClaim.holds_of_wide 5 Try.f5 rfl rfl rfl rfl rfl rfl rfl ⟨rfl, rfl, rfl, rfl, rfl⟩ rfl rfl rfl rfl rfl c_named Try.func5 c_facts c_inst c_wrap
    (fun os started H enc _ => lifted os started H enc)

/-- The statement. -/
theorem proved : Rows.FnBitWindowHoldsTheLatestItemsInOrderSaid := over
end Go.Proofs.Qxb6601294a.fnBitWindowHoldsTheLatestItemsInOrder
