/- The statement FnViewRulesAcceptExactlyTheViewEquivalentOrdersSaid: the guide's frame at (a slice of int64, two of uint8, one of strings, one of uint8), the walk out of Qxb6600752aLa. -/
import Derived.Test.Qxb6600752aIn
import Derived.Test.Qxb6600752aHead
import Derived.ProofKit
import Derived.OpenShut
import Derived.ChangeOld
import Derived.Deep.Slices
namespace Go.Proofs.Qxb6600752a.fnViewRulesAcceptExactlyTheViewEquivalentOrders
open Go.ChangeShapes Go.WideShapes Go.ChangeAt Go.RowKit
set_option linter.unusedVariables false

theorem own : ownKnob Try.prog.godebug = none := by kernel_rfl
theorem laidOut : laidOutB Try.prog = true := by kernel_rfl

set_option maxRecDepth 100000 in
theorem lifted (os : Os) (started : os.Started) (H : Type) (enc : TypeId × Value → H) :
    ReturnsInHanded {} Try.checked os 4 .any (Rows.fnViewRulesAcceptExactlyTheViewEquivalentOrdersSpec.pre6 enc Try.prog Try.f4 Rows.fnViewRulesAcceptExactlyTheViewEquivalentOrdersRow.domain false) (Rows.fnViewRulesAcceptExactlyTheViewEquivalentOrdersSpec.post enc Try.prog Try.f4 false true false false) := by
  refine returnsInHanded_of_change (C := Try.checked) own started (by kernel_rfl) Try.func4
    (ChangeSpec.witness6 (enc := enc) (C := Try.checked) false ⟨#[], #[.slice none 0 0, .slice none 0 0, .slice none 0 0, .slice none 0 0, .slice none 0 0], []⟩ 8 (by kernel_rfl) (by kernel_rfl) (by kernel_rfl) (by kernel_rfl)) ?_
  intro W base args ds gs before hval0 hW hcnd _
  have hval : ∀ (j : Nat) t v, Try.f4.params[j]? = some t → args[j]? = some v → Value.okWide Try.prog W .any base t v := hval0
  have hW' := hW
  obtain ⟨p, q, hA0, hV, rfl, hfz, hnd⟩ := hW
  have hA : DataW.TrodAll enc Try.prog W 0 (fun _ => true) true Try.f4.params.toList args.toList ds p := hA0
  rw [Try.params4] at hA hval
  obtain ⟨v0, vs0, d0, ds0, p0, q0, hargs, rfl, rfl, h0, r0⟩ := trodAll_cons hA
  obtain ⟨v1, vs1, d1, ds1, p1, q1, rfl, rfl, rfl, h1, r1⟩ := trodAll_cons r0
  obtain ⟨v2, vs2, d2, ds2, p2, q2, rfl, rfl, rfl, h2, r2⟩ := trodAll_cons r1
  obtain ⟨v3, vs3, d3, ds3, p3, q3, rfl, rfl, rfl, h3, r3⟩ := trodAll_cons r2
  obtain ⟨v4, vs4, d4, ds4, p4, q4, rfl, rfl, rfl, h4, r4⟩ := trodAll_cons r3
  obtain ⟨rfl, rfl, rfl⟩ := trodAll_nil r4
  obtain rfl : args = #[v0, v1, v2, v3, v4] := by cases args; simp_all
  obtain ⟨rfl, rfl⟩ := trodVars_none hV
  obtain ⟨a0, len0, cap0, rfl⟩ := okWide_slice Try.underlying22 (hval 0 22 v0 rfl rfl)
  obtain ⟨a1, len1, cap1, rfl⟩ := okWide_slice Try.underlying23 (hval 1 23 v1 rfl rfl)
  obtain ⟨a2, len2, cap2, rfl⟩ := okWide_slice Try.underlying23 (hval 2 23 v2 rfl rfl)
  obtain ⟨a3, len3, cap3, rfl⟩ := okWide_slice Try.underlying24 (hval 3 24 v3 rfl rfl)
  obtain ⟨a4, len4, cap4, rfl⟩ := okWide_slice Try.underlying23 (hval 4 23 v4 rfl rfl)
  have lt0 : ∀ x ∈ p0, x.block < W.heap.size := by obtain ⟨m, hm⟩ := h0; exact DataW.trod_lt m _ _ _ hm
  have lt1 : ∀ x ∈ p1, x.block < W.heap.size := by obtain ⟨m, hm⟩ := h1; exact DataW.trod_lt m _ _ _ hm
  have lt2 : ∀ x ∈ p2, x.block < W.heap.size := by obtain ⟨m, hm⟩ := h2; exact DataW.trod_lt m _ _ _ hm
  have lt3 : ∀ x ∈ p3, x.block < W.heap.size := by obtain ⟨m, hm⟩ := h3; exact DataW.trod_lt m _ _ _ hm
  have lt4 : ∀ x ∈ p4, x.block < W.heap.size := by obtain ⟨m, hm⟩ := h4; exact DataW.trod_lt m _ _ _ hm
  obtain ⟨ts, w0, l0, m0, hz⟩ := ints_in h0
  obtain ⟨ev, w1, l1, m1, hu1⟩ := bytes_in h1
  obtain ⟨ac, w2, l2, m2, hu2⟩ := bytes_in h2
  obtain ⟨ss, w3, l3, m3, hs⟩ := strs_in h3
  obtain ⟨pm, w4, l4, m4, hu4⟩ := bytes_in h4
  clear hA0 hval0
  refine (law_in a0 a1 a2 a3 a4 len0 cap0 len1 cap1 len2 cap2 len3 cap3 len4 cap4 ts ev ac ss pm W l0 l1 l2 l3 l4 w0 w1 w2 w3 w4 m0 m1 m2 m3 m4 hz hu1 hu2 hu4 hs).mono fun e W' ⟨he, bel⟩ => ?_
  subst he
  exact ⟨_, rfl, _, _, _, [], _, [], hW', trodAll_mk1 (shut_bool Try.underlying4 _), (trodAll_cons_mk (Below.trod laidOut (by kernel_rfl) (of_decide_eq_true (by kernel_rfl)) h0 bel lt0) (trodAll_cons_mk (Below.trod laidOut (by kernel_rfl) (of_decide_eq_true (by kernel_rfl)) h1 bel lt1) (trodAll_cons_mk (Below.trod laidOut (by kernel_rfl) (of_decide_eq_true (by kernel_rfl)) h2 bel lt2) (trodAll_cons_mk (Below.trod laidOut (by kernel_rfl) (of_decide_eq_true (by kernel_rfl)) h3 bel lt3) (trodAll_cons_mk (Below.trod laidOut (by kernel_rfl) (of_decide_eq_true (by kernel_rfl)) h4 bel lt4) trodAll_mk0))))), rfl, bel.frame _, fun h => by cases h⟩

theorem c_facts : joinedFacts Try.prog 4 Try.f4 Rows.fnViewRulesAcceptExactlyTheViewEquivalentOrdersSpec Rows.fnViewRulesAcceptExactlyTheViewEquivalentOrdersRow = true := by
  unfold joinedFacts
  rw [may_enter, lifts_final, make_is]
  kernel_rfl
theorem c_named : Try.pinned.checked.prog.funcNamed Rows.fnViewRulesAcceptExactlyTheViewEquivalentOrdersRow.func = some 4 := by kernel_rfl
theorem c_inst : Try.f4.isInstance Try.pinned.checked.prog Rows.fnViewRulesAcceptExactlyTheViewEquivalentOrdersRow.origin Rows.fnViewRulesAcceptExactlyTheViewEquivalentOrdersRow.targs := of_decide_eq_true (by kernel_rfl)
theorem c_wrap : Try.f4.isWrapper Try.pinned.checked.prog Rows.fnViewRulesAcceptExactlyTheViewEquivalentOrdersRow.wrapper Rows.fnViewRulesAcceptExactlyTheViewEquivalentOrdersRow.mainSum := by
  unfold Func.isWrapper
  first | (rw [if_pos (by decide +kernel)]; kernel_rfl) | (rw [if_neg (by decide +kernel)]; exact ⟨rfl, rfl⟩)

theorem over : Rows.fnViewRulesAcceptExactlyTheViewEquivalentOrdersRow.holds Try.pinned (OpenSpec.ofChange Rows.fnViewRulesAcceptExactlyTheViewEquivalentOrdersSpec) :=
  OpenClaim.holds_of_wide 4 Try.f4 rfl rfl rfl rfl rfl rfl rfl ⟨rfl, rfl, rfl, rfl, rfl⟩ rfl rfl rfl rfl rfl c_named Try.func4 c_facts c_inst c_wrap
    (fun os started H enc _ => lifted os started H enc)

/-- The statement. -/
theorem proved : Rows.FnViewRulesAcceptExactlyTheViewEquivalentOrdersSaid := over
end Go.Proofs.Qxb6600752a.fnViewRulesAcceptExactlyTheViewEquivalentOrders
