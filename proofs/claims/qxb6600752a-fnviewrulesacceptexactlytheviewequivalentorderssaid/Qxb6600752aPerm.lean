import Derived.Test.Qxb6600752aSmall
namespace Go.Proofs.Qxb6600752a
open Go.RowKit Go.Maps

set_option maxHeartbeats 400000 in
theorem txns_any (a0 : Option Addr) (c0 : Nat) (zs : List Int) (w : World) (hl : zs.length ≤ 1048576) (hx : IRow w a0 zs) :
    Calls Try.prog 26 #[.slice a0 zs.length c0] w fun e w' => e = .returned (.slice (some ⟨w.heap.size, 0, none⟩) zs.length zs.length) ∧ w'.ownsRow w.heap.size 44 1 (.slice (some ⟨w.heap.size, 0, none⟩) zs.length zs.length) zs.length (zs.map (Value.int .i64)) ∧ w.grownBy w' none := by
  obtain ⟨i0, hi, hz0, hz1, hz2⟩ := info_parts info44
  go_enter Try.func26, Try.ntmps26
  go_wp2_with (at_make; refine wpList_make_full _ rfl _ _ 42 rfl w.heap.size 44 i0 (.int .i64 0) 1 Try.underlying42 hi hz0 hz1 _ _ _ _ zs.length rfl rfl rfl rfl ?b1 ?b2 ?b3 ?_)
  case b1 => rw [hz2]; omega
  case b2 => unfold maxLen; omega
  case b3 => exact Nat.le_refl _
  intro w0 hown0 hgrow0
  go_wp2
  go_loopw [4] (fun i wr => ∃ k : Nat, k ≤ zs.length ∧ i = .int .i64 k ∧ wr.ownsRow w.heap.size 44 1 (.slice (some ⟨w.heap.size, 0, none⟩) zs.length zs.length) zs.length (mixV (.int .i64 0) (zs.map (Value.int .i64)) k) ∧ w.grownBy wr none) (fun i _ => zs.length - (intOf i).toNat)
  case atStart => exact ⟨0, Nat.zero_le _, rfl, by rw [mixV_zero]; simpa [toList_madeCells_one, Value.cells] using hown0, hgrow0⟩
  case round =>
    obtain ⟨k, hk, rfl, hown, hg⟩ := hrel
    by_cases hlt : k < zs.length
    · rcases hx with h0 | ⟨b, o, rfl, hc⟩
      · omega
      have hcell := grownBy_cell hg (hc k hlt)
      have hkm : k < (zs.map (Value.int .i64)).length := by simpa using hlt
      have hdst : wr.cell? ⟨w.heap.size, k, none⟩ = (mixV (.int .i64 0) (zs.map (Value.int .i64)) k)[k]? := hown.cellAt k (by omega)
      rw [mixV_at _ _ _ hkm] at hdst
      have hfz := hown.frozenAt k
      have R := hown.stored k (Value.int .i64 zs[k])
      have e : Value.int .i64 zs[k] = (zs.map (Value.int .i64))[k] := by simp
      rw [e, mixV_step _ _ _ hkm, ← e] at R
      clear e
      generalize zs[k] = z at hcell R
      have HR : Hid (_ ∧ _) := R
      have hz : w.heap.size < wr.heap.size := (hown.lt _ rfl).2
      have hki : (0 : Int) ≤ (k : Int) := by omega
      have hkp : (k : Int) < (zs.length : Int) := by omega
      clear R hc
      go_wp2
      go_roundw
      case rel => exact ⟨k + 1, by omega, by go_num, HR.out.1, grownBy_trans hg HR.out.2 (.inr fun j h => by cases h; exact Nat.le_refl _)⟩
      case measure => simp [intOf]; omega
    · go_wp2
      go_ret
      have : k = (zs.map (Value.int .i64)).length := by simp; omega
      subst this
      rw [mixV_end] at hown
      exact ⟨rfl, hown, hg⟩

set_option maxRecDepth 6000 in
set_option maxHeartbeats 1000000 in
theorem perm_any (a : Option Addr) (n c : Nat) (pm : List Nat) (w : World) (hn : n ≤ 1048576) (hx : URow w a pm) (hu : ∀ u ∈ pm, u < 256) :
    Calls Try.prog 23 #[.slice a pm.length c, .int .i64 (n : Int)] w fun e w' => ∃ b, e = .returned (.bool b) ∧ w.grownBy w' none ∧ (b = true → pm.length = n ∧ pm.Nodup ∧ ∀ u ∈ pm, u < n) := by
  obtain ⟨i0, hi, hz0, hz1, hz2⟩ := info_parts info4
  by_cases hln : pm.length = n
  case neg =>
    have hne : ((pm.length : Int) == (n : Int)) = false := by simp; omega
    have hne2 : ((pm.length : Int) != (n : Int)) = true := by simp; omega
    go_enter Try.func23, Try.ntmps23
    go_wp2
    go_ret
    refine ⟨_, rfl, World.grownBy.refl _ _, fun h => by cases h⟩
  case pos =>
  subst hln
  go_enter Try.func23, Try.ntmps23
  go_wp2_with (at_make; refine wpList_make_full _ rfl _ _ 30 rfl w.heap.size 4 i0 (.bool false) 1 Try.underlying30 hi hz0 hz1 _ _ _ _ pm.length rfl rfl rfl rfl ?b1 ?b2 ?b3 ?_)
  case b1 => rw [hz2]; omega
  case b2 => unfold maxLen; omega
  case b3 => exact Nat.le_refl _
  intro w0 hown0 hgrow0
  go_wp2
  go_loopw [6] (fun i wr => ∃ (k : Nat) (sn : List Bool), k ≤ pm.length ∧ i = .int .i64 k ∧ wr.ownsRow w.heap.size 4 1 (.slice (some ⟨w.heap.size, 0, none⟩) pm.length pm.length) pm.length (sn.map Value.bool) ∧ w.grownBy wr none ∧ Hid (sn.length = pm.length ∧ (∀ x, x < pm.length → (sn.getD x false = true ↔ x ∈ pm.take k)) ∧ (pm.take k).Nodup ∧ ∀ u ∈ pm.take k, u < pm.length)) (fun i _ => pm.length - (intOf i).toNat)
  case atStart => exact ⟨0, List.replicate pm.length false, Nat.zero_le _, rfl, by simpa [toList_madeCells_one, Value.cells] using hown0, hgrow0, by refine ⟨by simp, fun x hx => ?_, by simp, by simp⟩; simp [hx]⟩
  case round =>
    obtain ⟨k, sn, hk, rfl, hown, hg, hS⟩ := hrel
    by_cases hlt : k < pm.length
    · rcases hx with h0 | ⟨b, o, rfl, hc⟩
      · omega
      have hcell := grownBy_cell hg (hc k hlt)
      have hb1 := hu _ (List.getElem_mem hlt)
      have HP : Hid (pm.take (k + 1) = pm.take k ++ [pm[k]]) := List.take_succ_eq_append_getElem hlt
      generalize pm[k] = u at *
      have hki : (0 : Int) ≤ (k : Int) := by omega
      have hkp : (k : Int) < (pm.length : Int) := by omega
      have hz : w.heap.size < wr.heap.size := (hown.lt _ rfl).2
      by_cases hun : u < pm.length
      · have hdst : wr.cell? ⟨w.heap.size, u, none⟩ = _ := hown.cellAt u (by omega)
        rw [map_bool_at _ _ (by rw [hS.out.1]; exact hun)] at hdst
        have hfz := hown.frozenAt u
        have R := hown.stored u (.bool true)
        rw [map_set_bool] at R
        have HR : Hid _ := R
        have hui : (0 : Int) ≤ (u : Int) := by omega
        have hup : (u : Int) < (pm.length : Int) := by omega
        clear R hc hown
        cases hsv : sn.getD u false with
        | true =>
          rw [hsv] at hdst
          go_wp2
          go_ret
          refine ⟨_, rfl, hg, fun h => by cases h⟩
        | false =>
          rw [hsv] at hdst
          have HSV : Hid (sn.getD u false = false) := hsv
          clear hsv hun
          go_upto_region 8 with fail
          go_cut [33] from 14 to 36 (fun s wx => s = .bool false ∧ wx = wr)
          case first =>
            clear hk hb1 hn hg hz hfz hki hkp HP HSV HR hS hu hlt
            go_wp2
            go_meet
            case rel =>
              refine ⟨?_, rfl⟩
              congr 1
              simp
              omega
          case rest =>
          obtain ⟨rfl, hw⟩ := hcut
          have hw := hw.symm
          subst hw
          go_wp2
          go_roundw
          case measure => simp [intOf]; omega
          case rel =>
            refine ⟨k + 1, sn.set u true, by omega, by go_num, HR.out.1, grownBy_trans hg HR.out.2 (.inr fun j h => by cases h; exact Nat.le_refl _), ?_⟩
            obtain ⟨s1, s2, s3, s4⟩ := hS.out
            have hun : u < pm.length := by omega
            have hsv : sn.getD u false = false := HSV.out
            have hni : ¬ u ∈ pm.take k := fun h => by rw [← s2 u hun, hsv] at h; cases h
            show _ ∧ _
            rw [HP.out]
            refine ⟨by simpa using s1, fun x hx => ?_, ?_, ?_⟩
            · by_cases hxu : x = u
              · subst hxu
                simp [s1, hx]
              · rw [List.mem_append, ← s2 x hx]
                simp [Ne.symm hxu, hxu]
            · rw [List.nodup_append]
              exact ⟨s3, by simp, fun a ha b hb => by simp at hb; subst hb; exact fun e => hni (e ▸ ha)⟩
            · intro v hv
              rcases List.mem_append.1 hv with h | h
              · exact s4 v h
              · simp at h; subst h; exact hun
      · have hge : (pm.length : Int) ≤ (u : Int) := by omega
        go_wp2
        go_ret
        refine ⟨_, rfl, hg, fun h => by cases h⟩
    · go_wp2
      go_ret
      have : k = pm.length := by omega
      subst this
      obtain ⟨s1, s2, s3, s4⟩ := hS.out
      rw [List.take_length] at s3 s4
      exact ⟨_, rfl, hg, fun _ => ⟨by first | rfl | trivial, s3, s4⟩⟩
end Go.Proofs.Qxb6600752a
