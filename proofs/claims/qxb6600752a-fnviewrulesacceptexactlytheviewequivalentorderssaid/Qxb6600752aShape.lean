import Derived.Test.Qxb6600752aPerm
namespace Go.Proofs.Qxb6600752a
open Go.RowKit Go.Maps

theorem keyed2 : Keyed Try.prog 2 := int_keyed Try.underlying2
theorem key2 {z : Int} (h : (Lit.int .i64 z).wf = true) : keyOf Try.prog 2 (.int .i64 z) = some (.int .i64 z) := keyOf_int_mk Try.underlying2 h
theorem zero4 (w : World) : (zeroValue 4).run Try.prog w = .ok (.bool false) w := by kernel_rfl

open Classical in
/-- The set of the numbers in zs. -/
noncomputable def setI (zs : List Int) (v : Value) : Option Value := if ∃ z ∈ zs, v = .int .i64 z then some (.bool true) else none
theorem setI_in {zs : List Int} {z : Int} (h : z ∈ zs) : setI zs (.int .i64 z) = some (.bool true) := if_pos ⟨z, h, rfl⟩
theorem setI_out {zs : List Int} {z : Int} (h : ¬ z ∈ zs) : setI zs (.int .i64 z) = none := if_neg fun ⟨y, hy, e⟩ => by cases e; exact h hy
theorem setI_snoc {zs : List Int} {z : Int} {v : Value} (h : v ≠ .int .i64 z) : setI (zs ++ [z]) v = setI zs v := by
  unfold setI
  by_cases h1 : ∃ z ∈ zs, v = .int .i64 z
  · obtain ⟨y, hy, e⟩ := h1
    rw [if_pos ⟨y, by simp [hy], e⟩, if_pos ⟨y, hy, e⟩]
  · rw [if_neg h1, if_neg]
    rintro ⟨y, hy, e⟩
    rcases List.mem_append.1 hy with hy | hy
    · exact h1 ⟨y, hy, e⟩
    · simp at hy
      subst hy
      exact h e

theorem run_makeMapN (t k e : TypeId) (ht : Try.prog.underlying t = some (.map k e)) (z : Int) (w : World) : (Instr.makeMap t (some (.int .i64 z))).run Try.prog w = .ok (.map (some w.heap.size)) (w.alloc (.map #[] 0)) := by
  have h := run_makeMap (P := Try.prog) t w
  simp only [Instr.makeMap] at h
  simp [Instr.makeMap, run_underlying ht, asInt, asIntOf, Result.andThen]

/-- It answers a bool, of which p holds. -/
def RetB (p : Bool → World → Prop) (e : Ending) (w' : World) : Prop := ∃ b, e = .returned (.bool b) ∧ p b w'
theorem retB {p : Bool → World → Prop} (b : Bool) {w' : World} (h : p b w') : RetB p (.returned (.bool b)) w' := ⟨b, rfl, h⟩

set_option maxRecDepth 6000 in
set_option maxHeartbeats 1000000 in
theorem shape_any (a0 a1 a2 a3 : Option Addr) (c0 l1 c1 l2 c2 l3 c3 : Nat) (zs : List Int) (w : World) (hl : zs.length ≤ 1048576) (hx : IRow w a0 zs) (hz : ∀ z ∈ zs, (Lit.int .i64 z).wf = true) :
    Calls Try.prog 10 #[.slice a0 zs.length c0, .slice a1 l1 c1, .slice a2 l2 c2, .slice a3 l3 c3] w (RetB fun b w' => w.grownBy w' none ∧ (b = true → (l1 = l2 ∧ l1 = l3) ∧ (0 < l1 → 0 < zs.length) ∧ zs.Nodup)) := by
  have hmm := run_makeMapN 72 2 4 Try.underlying72 (zs.length : Int)
  go_enter Try.func10, Try.ntmps10
  go_upto_region 1 with fail
  go_cut [22] from 11 (fun s wx => ∃ b, s = .bool b ∧ Hid (b = false → l1 = l2 ∧ l1 = l3) ∧ wx = w)
  case first =>
    go_wp2
    all_goals go_meet
    all_goals
      refine ⟨_, rfl, ?_, rfl⟩
      show _ → _
      intro h
      first | (simp at h; done) | (simp at h; omega) | omega
  case rest =>
  obtain ⟨b, rfl, hb, hw⟩ := hcut
  have hw := hw.symm
  subst hw
  cases b with
  | true =>
    go_wp2
    go_ret
    exact retB false ⟨World.grownBy.refl _ _, fun h => by cases h⟩
  | false =>
  go_upto_region 3 with fail
  go_cut [30] from 11 (fun s wx => ∃ b, s = .bool b ∧ Hid (b = false → 0 < l1 → 0 < zs.length) ∧ wx = w)
  case first =>
    go_wp2
    all_goals go_meet
    all_goals
      refine ⟨_, rfl, ?_, rfl⟩
      show _ → _
      intro h
      intro h1
      refine Nat.pos_of_ne_zero fun h2 => ?_
      first | (simp at h; done) | omega | (simp [h2] at h; done) | (simp [h2] at h; omega)
  case rest =>
  obtain ⟨b, rfl, hb2, hw⟩ := hcut
  have hw := hw.symm
  subst hw
  cases b with
  | true =>
    go_wp2
    go_ret
    exact retB false ⟨World.grownBy.refl _ _, fun h => by cases h⟩
  | false =>
  have HH : Hid ((l1 = l2 ∧ l1 = l3) ∧ (0 < l1 → 0 < zs.length)) := ⟨hb.out rfl, hb2.out rfl⟩
  clear hb hb2
  go_wp2
  go_loopw [10] (fun i wr => ∃ k : Nat, k ≤ zs.length ∧ i = .int .i64 k ∧ Hid (OwnsM wr 2 w.heap.size k (setI (zs.take k)) ∧ (zs.take k).Nodup) ∧ w.grownBy wr none) (fun i _ => zs.length - (intOf i).toNat)
  case atStart =>
    refine ⟨0, Nat.zero_le _, rfl, ⟨?_, by simp⟩, World.grownBy_alloc _ _ _⟩
    have e : setI (zs.take 0) = fun _ => none := by funext v; simp [setI]
    rw [e]
    exact OwnsM.made w 2
  case round =>
    obtain ⟨k, hk, rfl, hM, hg⟩ := hrel
    by_cases hlt : k < zs.length
    · rcases hx with h0 | ⟨b, o, rfl, hc⟩
      · omega
      have hcell := grownBy_cell hg (hc k hlt)
      have hwf := hz _ (List.getElem_mem hlt)
      have HP : Hid (zs.take (k + 1) = zs.take k ++ [zs[k]]) := List.take_succ_eq_append_getElem hlt
      generalize zs[k] = z at *
      have hki : (0 : Int) ≤ (k : Int) := by omega
      have hkp : (k : Int) < (zs.length : Int) := by omega
      have hlook := hM.out.1.look keyed2 Try.underlying72 (zero4 wr) (key2 hwf)
      clear hc hz
      by_cases hin : z ∈ zs.take k
      · rw [setI_in hin] at hlook
        clear hin
        go_wp2
        go_ret
        exact retB false ⟨hg, fun h => by cases h⟩
      · rw [setI_out hin] at hlook
        have HI : Hid (¬ z ∈ zs.take k) := hin
        clear hin
        obtain ⟨w2, hrun, g2, hf⟩ := hM.out.1.store keyed2 Try.underlying72 (by unfold maxLen; omega) (.bool true) (key2 hwf)
        have HF : Hid _ := hf
        clear hf hwf
        go_wp2
        go_roundw
        case measure => simp [intOf]; omega
        case rel =>
          refine ⟨k + 1, by omega, by go_num, ?_, grownBy_trans hg g2 (.inr fun j h => by cases h; exact Nat.le_refl _)⟩
          show _ ∧ _
          rw [HP.out]
          refine ⟨HF.out _ (setI_in (by simp)) (fun key' _ _ hne => setI_snoc hne), ?_⟩
          rw [List.nodup_append]
          exact ⟨hM.out.2, by simp, fun a ha b hb => by simp at hb; subst hb; exact fun e => HI.out (e ▸ ha)⟩
    · go_wp2
      go_ret
      have : k = zs.length := by omega
      subst this
      have hd := hM.out.2
      rw [List.take_length] at hd
      exact retB true ⟨hg, fun _ => ⟨HH.out.1, HH.out.2, hd⟩⟩
end Go.Proofs.Qxb6600752a
