import Derived.Test.Qxb6601294aGen
import Derived.Test.Qxb6601294aWin
namespace Go.Proofs.Qxb6601294a
open Go.RowKit

theorem getD_bool (bs : List Bool) (i : Nat) (h : i < bs.length) : bs.getD i false = bs[i] := by simp [List.getD, h]

set_option maxHeartbeats 1000000 in
theorem give_walk (cap : Int) (v : Value) (bs : List Bool) (w : World) (a1 : Option Addr) (c1 : Nat) (e1 : v = .slice a1 bs.length c1) (r1 : Rv w v (bs.map Value.bool)) (hb : bs.length ≤ maxLen) (hcap : cap ≤ 9223372036854775807) :
    Calls Try.prog 4 #[.int .i64 cap, v] w fun e w' => e = .returned (.bool true) ∧ Below w.heap.size w w' := by
  unfold maxLen at hb
  subst e1
  go_enter Try.func4, Try.ntmps4
  go_wp2_with (first
    | (go_at_call 17; refine (bytes17_any _ _ _ _ _).mono ?_; rintro e w' ⟨b, rfl, hw⟩; obtain rfl := hw.symm; clear hw))
  all_goals try (go_ret; exact ⟨rfl, Below.refl _ _⟩)
  have hc1 : 1 ≤ cap := by omega
  have hbl : bs.length ≤ 1048576 := by omega
  obtain ⟨cap, rfl⟩ := Int.eq_ofNat_of_zero_le (show 0 ≤ cap by omega)
  have hcn : 1 ≤ cap := by omega
  refine (cloneBool_any _ bs _ r1 hbl).mono ?_
  rintro e w1 ⟨vB, rfl, hB1, g1⟩
  have rB := rv_of_owns hB1
  obtain ⟨aB, cB, hvB, _, _, _, hxB⟩ := rB
  simp only [List.length_map] at hvB hxB
  subst hvB
  clear hB1 r1
  go_wp2
  go_loopw [5, 6, 7, 8] (fun sv sn sx si wr => ∃ (k : Nat) (ws : List Nat) (n nx : Nat), k ≤ bs.length ∧ si = .int .i64 k ∧ sn = .int .i64 n ∧ sx = .int .i64 nx ∧ wr.ownsRow w1.heap.size 38 1 sv ws.length (U ws) ∧ Ext w1 (.slice none 0 0) wr sv ∧ Hid (Inv bs cap k ws n nx)) (fun _ _ _ si _ => bs.length - (intOf si).toNat)
  case atStart => exact ⟨0, [], 0, 0, Nat.zero_le _, rfl, rfl, rfl, World.ownsRow_nil _ _ _ _, Ext.refl _ _, inv_start bs cap hcn⟩
  case round =>
    obtain ⟨k, ws, n, nx, hk, rfl, rfl, rfl, hown, hE, hinv⟩ := hrel
    by_cases hlt : k < bs.length
    · rcases hxB with h0 | ⟨b, o, rfl, hxB⟩
      · omega
      have hg : w1.grownBy wr none := hE.grown
      have q1 : wr.cell? ⟨b, o + k, none⟩ = some (.bool (bs.getD k false)) := grownBy_cell hg (hxB k _ (by simp [hlt]))
      have q2 : cap ≤ k → w1.cell? ⟨b, o + (k - cap), none⟩ = some (.bool (bs.getD (k - cap) false)) := fun _ => hxB (k - cap) _ (by simp [show k - cap < bs.length by omega])
      have hnl := hinv.out.n_le
      have hold := hinv.out.old hcn
      have hstep := inv_step hinv.out hcn (bs.getD k false) rfl
      have HC := zzbit_any w1.heap.size u5 ws cap n nx (bs.getD k false) wr hcap hnl.1 (hinv.out.nx_lt hcn) hinv.out.len (by omega) hg.size hown hinv.out.small
      generalize bs.getD k false = bk at q1 HC hstep
      have HS : Hid (Inv bs cap (k + 1) (addWs ws cap n nx bk) (addN cap n) (addNx cap n nx)) := hstep
      have hcb : (cap : Int) ≤ 9223372036854775807 := hcap
      clear hstep hxB hinv hown
      by_cases hck : cap ≤ k
      · have q3 := q2 hck
        rw [if_pos hck] at hold
        rw [hold] at HC
        generalize bs.getD (k - cap) false = bo at q3 HC
        clear q2 hold
        go_wp2_with (go_at_call 15; refine HC.mono ?_; rintro e w2 ⟨v2, rfl, hown2, E2⟩; have q4 := grownBy_cell (w := w1) (hE.trans E2).grown q3)
        go_roundw
        case rel => exact ⟨k + 1, _, _, _, by omega, by go_num, rfl, rfl, hown2, hE.trans E2, HS⟩
        case measure => simp [intOf]; omega
      · rw [if_neg hck] at hold
        rw [hold] at HC
        clear q2 hold
        go_wp2_with (go_at_call 15; refine HC.mono ?_; rintro e w2 ⟨v2, rfl, hown2, E2⟩)
        go_roundw
        case rel => exact ⟨k + 1, _, _, _, by omega, by go_num, rfl, rfl, hown2, hE.trans E2, HS⟩
        case measure => simp [intOf]; omega
    · go_wp2
      go_ret
      exact ⟨rfl, (grownBy_below g1).trans (grownBy_below (hE.grown)|>.mono g1.size)⟩
end Go.Proofs.Qxb6601294a
