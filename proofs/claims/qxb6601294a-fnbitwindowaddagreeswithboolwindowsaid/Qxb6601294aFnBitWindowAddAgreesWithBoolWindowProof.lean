/- The statement FnBitWindowAddAgreesWithBoolWindowSaid: the guide's frame, the walk out of Qxb6601294aAgreeLaw. -/
import Derived.Test.Qxb6601294aAgreeLaw
import Derived.Test.Qxb6601294aHead
import Derived.WalkKit
import Derived.ProofKit
import Derived.OpenShut
import Derived.ShutString
import Derived.ChangeOld
import Derived.Below
namespace Go.Proofs.Qxb6601294a.fnBitWindowAddAgreesWithBoolWindow
open Go.ChangeShapes Go.WideShapes Go.ChangeAt Go.RowKit
open Go.ChangeMaps (open_string shut_string)
set_option linter.unusedVariables false

theorem own : ownKnob Try.prog.godebug = none := by kernel_rfl
theorem laidOut : laidOutB Try.prog = true := by kernel_rfl

/-- WHAT THE WALK IS TOLD OF A SLICE OF INTEGERS THAT CAME IN: it is nil; or it leads to a row of 'cap' cells, the numbers 'zs' (the first 'len' are its elements, the rest its spare room), each fitting its kind. -/
def IsRow (k : IntKind) (w : World) (a : Option Addr) (len cap : Nat) (zs : List Int) : Prop :=
  (a = none ∧ len = 0 ∧ cap = 0 ∧ zs = []) ∨
  ∃ x, a = some x ∧ len ≤ cap ∧ cap ≤ maxLen ∧ zs.length = cap ∧ (∀ i, i < zs.length → w.cell? (x.add i) = some (.int k (zs.getD i 0))) ∧ ∀ n ∈ zs, (Lit.int k n).wf = true

/-- A slice of uint64 that came in, as words. -/
theorem words_in {w : World} {a : Option Addr} {len cap : Nat} {zs : List Int} (h : IsRow .u64 w a len cap zs) : ∃ ws : List Nat, ws.length = len ∧ Small ws ∧ Rv w (.slice a ws.length cap) (U ws) ∧ ws.length ≤ maxLen := by
  rcases h with ⟨rfl, rfl, rfl, rfl⟩ | ⟨x, rfl, h1, h2, h3, h4, h5⟩
  · exact ⟨[], rfl, fun x hx => by simp at hx, ⟨none, 0, rfl, Nat.le_refl _, Nat.zero_le _, fun _ => rfl, .inl rfl⟩, Nat.zero_le _⟩
  · have hl : ((zs.take len).map Int.toNat).length = len := by simp; omega
    have hbd : ∀ i (hi : i < zs.length), 0 ≤ zs[i] ∧ zs[i] ≤ 18446744073709551615 := fun i hi => bounds_u64 (h5 _ (List.getElem_mem hi))
    refine ⟨(zs.take len).map Int.toNat, hl, ?_, ⟨some x, cap, by rw [U_length], by rw [U_length, hl]; exact h1, h2, fun h => by simp at h, ?_⟩, by omega⟩
    · intro y hy
      simp only [List.mem_map] at hy
      obtain ⟨z, hz, rfl⟩ := hy
      obtain ⟨i, hi, rfl⟩ := List.getElem_of_mem (List.mem_of_mem_take hz)
      have := hbd i hi
      omega
    · rw [U_length, hl]
      by_cases h0 : len = 0
      · exact .inl h0
      · obtain ⟨b, o, sp⟩ := x
        have hsp : sp = none := by simpa [Addr.add] using World.cell?_spot (h4 0 (by omega))
        subst hsp
        refine .inr ⟨b, o, rfl, fun i u hi => ?_⟩
        have hlt : i < len := by have := (List.getElem?_eq_some_iff.1 hi).1; rw [U_length, hl] at this; exact this
        have hiz : i < zs.length := by omega
        have hc := h4 i hiz
        rw [Addr.add_lit] at hc
        rw [hc]
        rw [U_at _ _ (by rw [hl]; exact hlt)] at hi
        rw [← hi]
        have := hbd i hiz
        have e : ((List.map Int.toNat (List.take len zs)).getD i 0 : Int) = zs.getD i 0 := by
          simp [List.getD, hlt, hiz]
          omega
        rw [e]

/-! ### STEP 1: THE WALK: the Go text returns true, AND WRITES NOTHING THAT WAS THERE: 'Below w.heap.size w w'' (Derived/Below.lean: '.refl', '.alloc', '.drew', '.setCell' at a new block, '.trans'). Open each 'IsRow' by 'rcases' AHEAD of 'go_enter'; part every test ahead of the walk. -/
theorem walk (a0 : Int) (a1 : Option Addr) (len1 cap1 : Nat) (z1 : List Int) (a2 : Int) (a3 : Int) (a4 : Bool) (w : World) (w0 : (Lit.int .i64 a0).wf = true) (w1 : IsRow .u64 w a1 len1 cap1 z1) (w2 : (Lit.int .i64 a2).wf = true) (w3 : (Lit.int .i64 a3).wf = true) :
    Calls Try.prog 3 #[.int .i64 a0, .slice a1 len1 cap1, .int .i64 a2, .int .i64 a3, .bool a4] w fun e w' => e = .returned (.bool true) ∧ Below w.heap.size w w' := by
  have b0 := bounds_i64 w0
  have b2 := bounds_i64 w2
  have b3 := bounds_i64 w3
  obtain ⟨ws, hwl, hsm, hrv, hlm⟩ := words_in w1
  subst hwl
  by_cases h : ¬ (1 ≤ a0 ∧ 0 ≤ a2 ∧ a2 ≤ a0 ∧ 0 ≤ a3 ∧ a3 < a0) ∨ 1024 < ws.length ∨ (a2 > (ws.length : Int) * 64 ∨ (ws.length : Int) ≠ (a2 + 63) / 64)
  · exact agree_out a0 a2 a3 a1 ws.length cap1 a4 w (by unfold maxLen at hlm; omega) b2.2 h
  · obtain ⟨c, rfl⟩ := Int.eq_ofNat_of_zero_le (show 0 ≤ a0 by omega)
    obtain ⟨n, rfl⟩ := Int.eq_ofNat_of_zero_le (show 0 ≤ a2 by omega)
    obtain ⟨x, rfl⟩ := Int.eq_ofNat_of_zero_le (show 0 ≤ a3 by omega)
    exact agree_walk c n x a1 cap1 ws a4 w hrv hsm (by omega) b0.2 (by omega) (by omega) (by omega) (by omega) (by omega)

/-! ### THE ROW's STEP: WRITTEN OUT: LEAVE IT -/
set_option maxRecDepth 100000 in
theorem lifted (os : Os) (started : os.Started) (H : Type) (enc : TypeId × Value → H) :
    ReturnsInHanded {} Try.checked os 3 .any (Rows.fnBitWindowAddAgreesWithBoolWindowSpec.pre6 enc Try.prog Try.f3 Rows.fnBitWindowAddAgreesWithBoolWindowRow.domain false) (Rows.fnBitWindowAddAgreesWithBoolWindowSpec.post enc Try.prog Try.f3 false true false false) := by
  refine returnsInHanded_of_change (C := Try.checked) own started (by kernel_rfl) Try.func3
    (ChangeSpec.witness6 (enc := enc) (C := Try.checked) false ⟨#[], #[.int .i64 0, .slice none 0 0, .int .i64 0, .int .i64 0, .bool false], []⟩ 8 (by kernel_rfl) (by kernel_rfl) (by kernel_rfl) (by kernel_rfl)) ?_
  intro W base args ds gs before hval0 hW hcnd _
  have hval : ∀ (j : Nat) t v, Try.f3.params[j]? = some t → args[j]? = some v → Value.okWide Try.prog W .any base t v := hval0
  have hW' := hW
  obtain ⟨p, q, hA0, hV, rfl, hfz, hnd⟩ := hW
  have hA : DataW.TrodAll enc Try.prog W 0 (fun _ => true) true Try.f3.params.toList args.toList ds p := hA0
  rw [Try.params3] at hA hval
  obtain ⟨v0, vs0, d0, ds0, p0, q0, hargs, rfl, rfl, h0, r0⟩ := trodAll_cons hA
  obtain ⟨v1, vs1, d1, ds1, p1, q1, rfl, rfl, rfl, h1, r1⟩ := trodAll_cons r0
  obtain ⟨v2, vs2, d2, ds2, p2, q2, rfl, rfl, rfl, h2, r2⟩ := trodAll_cons r1
  obtain ⟨v3, vs3, d3, ds3, p3, q3, rfl, rfl, rfl, h3, r3⟩ := trodAll_cons r2
  obtain ⟨v4, vs4, d4, ds4, p4, q4, rfl, rfl, rfl, h4, r4⟩ := trodAll_cons r3
  obtain ⟨rfl, rfl, rfl⟩ := trodAll_nil r4
  obtain rfl : args = #[v0, v1, v2, v3, v4] := by cases args; simp_all
  obtain ⟨rfl, rfl⟩ := trodVars_none hV
  obtain ⟨a0, rfl, rfl, rfl, w0⟩ := open_int Try.underlying3 (hval 0 3 v0 rfl rfl) h0
  obtain ⟨a1, len1, cap1, rfl⟩ := okWide_slice Try.underlying22 (hval 1 22 v1 rfl rfl)
  have k1 := h1
  have lt1 : ∀ x ∈ p1, x.block < W.heap.size := by obtain ⟨m, hm⟩ := k1; exact DataW.trod_lt m _ _ _ hm
  obtain ⟨z1, w1⟩ : ∃ zs, IsRow .u64 W a1 len1 cap1 zs := by
    obtain ⟨fuel, hf⟩ := h1
    rcases open_ints Try.underlying22 Try.underlying38 (by kernel_rfl) hf with ⟨hcs, _⟩ | ⟨x, l, c, zs, hcs, _, hl, hm, hz, _, hcell, hwz⟩
    · simp [Value.cells] at hcs
      obtain ⟨rfl, rfl, rfl⟩ := hcs
      exact ⟨[], .inl ⟨rfl, rfl, rfl, rfl⟩⟩
    · simp [Value.cells] at hcs
      obtain ⟨rfl, rfl, rfl⟩ := hcs
      exact ⟨zs, .inr ⟨_, rfl, hl, hm, by simpa using hz, hcell, hwz⟩⟩
  obtain ⟨a2, rfl, rfl, rfl, w2⟩ := open_int Try.underlying3 (hval 2 3 v2 rfl rfl) h2
  obtain ⟨a3, rfl, rfl, rfl, w3⟩ := open_int Try.underlying3 (hval 3 3 v3 rfl rfl) h3
  obtain ⟨a4, rfl, rfl, rfl⟩ := open_bool Try.underlying4 (hval 4 4 v4 rfl rfl) h4
  clear hA0 hval0
  refine (walk a0 a1 len1 cap1 z1 a2 a3 a4 W w0 w1 w2 w3).mono fun e W' ⟨he, bel⟩ => ?_
  subst he
  exact ⟨_, rfl, _, _, _, [], _, [], hW', trodAll_mk1 (shut_bool Try.underlying4 _), (trodAll_cons_mk (shut_int Try.underlying3 w0) (trodAll_cons_mk (Below.trod laidOut (by kernel_rfl) (of_decide_eq_true (by kernel_rfl)) k1 bel lt1) (trodAll_cons_mk (shut_int Try.underlying3 w2) (trodAll_cons_mk (shut_int Try.underlying3 w3) (trodAll_cons_mk (shut_bool Try.underlying4 _) trodAll_mk0))))), rfl, bel.frame _, fun h => by cases h⟩

theorem c_facts : joinedFacts Try.prog 3 Try.f3 Rows.fnBitWindowAddAgreesWithBoolWindowSpec Rows.fnBitWindowAddAgreesWithBoolWindowRow = true := by
  unfold joinedFacts
  rw [may_enter, lifts_final, make_is]
  kernel_rfl
theorem c_named : Try.pinned.checked.prog.funcNamed Rows.fnBitWindowAddAgreesWithBoolWindowRow.func = some 3 := by kernel_rfl
theorem c_inst : Try.f3.isInstance Try.pinned.checked.prog Rows.fnBitWindowAddAgreesWithBoolWindowRow.origin Rows.fnBitWindowAddAgreesWithBoolWindowRow.targs := of_decide_eq_true (by kernel_rfl)
theorem c_wrap : Try.f3.isWrapper Try.pinned.checked.prog Rows.fnBitWindowAddAgreesWithBoolWindowRow.wrapper Rows.fnBitWindowAddAgreesWithBoolWindowRow.mainSum := by
  unfold Func.isWrapper
  first | (rw [if_pos (by decide +kernel)]; kernel_rfl) | (rw [if_neg (by decide +kernel)]; exact ⟨rfl, rfl⟩)

theorem over : Rows.fnBitWindowAddAgreesWithBoolWindowRow.holds Try.pinned (OpenSpec.ofChange Rows.fnBitWindowAddAgreesWithBoolWindowSpec) :=
  OpenClaim.holds_of_wide 3 Try.f3 rfl rfl rfl rfl rfl rfl rfl ⟨rfl, rfl, rfl, rfl, rfl⟩ rfl rfl rfl rfl rfl c_named Try.func3 c_facts c_inst c_wrap
    (fun os started H enc _ => lifted os started H enc)

/-- The statement. -/
theorem proved : Rows.FnBitWindowAddAgreesWithBoolWindowSaid := over
end Go.Proofs.Qxb6601294a.fnBitWindowAddAgreesWithBoolWindow
