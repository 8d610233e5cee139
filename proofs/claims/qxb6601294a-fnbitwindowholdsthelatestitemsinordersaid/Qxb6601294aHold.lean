import Derived.Test.Qxb6601294aPad
namespace Go.Proofs.Qxb6601294a
open Go.RowKit

/-- Where item j of the held ones lies. -/
theorem held_at {bs : List Bool} {cap k : Nat} {ws : List Nat} {n nx : Nat} (h : Inv bs cap k ws n nx) (hc : 1 ≤ cap) (j : Nat) (hj : j < n) :
    (n = cap → bit ws ((nx + j) % cap) = bs.getD (k - n + j) false ∧ (nx + j) % cap < n) ∧ (n ≠ cap → bit ws j = bs.getD (k - n + j) false) := by
  have h1 := h.count
  have h2 := h.held (k - n + j) (by omega) (by omega)
  constructor
  · intro e
    have hk : ¬ k < cap := by omega
    have h3 := h.next
    rw [if_neg hk] at h3
    have e2 : (nx + j) % cap = (k - n + j) % cap := by
      rw [h3, Nat.mod_add_mod, e]
      have e3 : k + j = (k - cap + j) + cap := by omega
      rw [e3, Nat.add_mod_right]
    rw [e2]
    refine ⟨h2, ?_⟩
    have := Nat.mod_lt (k - n + j) (show cap > 0 by omega)
    omega
  · intro e
    have hk : k < cap := by omega
    have e1 : k - n + j = j := by omega
    rw [e1, Nat.mod_eq_of_lt (by omega)] at h2
    rw [e1]
    exact h2

set_option maxHeartbeats 1000000 in
theorem hold_walk (cap : Int) (v : Value) (bs : List Bool) (w : World) (a1 : Option Addr) (c1 : Nat) (e1 : v = .slice a1 bs.length c1) (r1 : Rv w v (bs.map Value.bool)) (hb : bs.length ≤ maxLen) (hcap : cap ≤ 9223372036854775807) :
    Calls Try.prog 5 #[.int .i64 cap, v] w fun e w' => e = .returned (.bool true) ∧ Below w.heap.size w w' := by
  unfold maxLen at hb
  subst e1
  go_enter Try.func5, Try.ntmps5
  go_wp2_with (first
    | (go_at_call 19; refine (bytes19_any _ _ _ _ _).mono ?_; rintro e w' ⟨b, rfl, hw⟩; obtain rfl := hw.symm; clear hw))
  all_goals try (go_ret; exact ⟨rfl, Below.refl _ _⟩)
  have hc1 : 1 ≤ cap := by omega
  have hbl : bs.length ≤ 1048576 := by omega
  obtain ⟨cap, rfl⟩ := Int.eq_ofNat_of_zero_le (show 0 ≤ cap by omega)
  have hcn : 1 ≤ cap := by omega
  refine (cloneBool_any _ bs _ r1 hbl).mono ?_
  rintro e w1 ⟨vB, rfl, hB1, g1⟩
  have rB := rv_of_owns hB1
  obtain ⟨aB, cB, hvB, _, _, _, hxB⟩ := rB
  simp only [List.length_map] at hvB hxB
  subst hvB
  clear hB1 r1
  go_wp2
  go_loopw [5, 6, 7, 8] (fun sv sn sx si wr => ∃ (k : Nat) (ws : List Nat) (n nx : Nat), k ≤ bs.length ∧ si = .int .i64 k ∧ sn = .int .i64 n ∧ sx = .int .i64 nx ∧ wr.ownsRow w1.heap.size 38 1 sv ws.length (U ws) ∧ Ext w1 (.slice none 0 0) wr sv ∧ Hid (Inv bs cap k ws n nx)) (fun _ _ _ si _ => bs.length - (intOf si).toNat)
  case atStart => exact ⟨0, [], 0, 0, Nat.zero_le _, rfl, rfl, rfl, World.ownsRow_nil _ _ _ _, Ext.refl _ _, inv_start bs cap hcn⟩
  case round =>
    obtain ⟨k, ws, n, nx, hk, rfl, rfl, rfl, hown, hE, hinv⟩ := hrel
    have hg : w1.grownBy wr none := hE.grown
    by_cases hlt : k < bs.length
    · rcases hxB with h0 | ⟨b, o, rfl, hxB⟩
      · omega
      have q1 : wr.cell? ⟨b, o + k, none⟩ = some (.bool (bs.getD k false)) := grownBy_cell hg (hxB k _ (by simp [hlt]))
      have hnl := hinv.out.n_le
      have hstep := inv_step hinv.out hcn (bs.getD k false) rfl
      have HC := zzbit_any w1.heap.size u5 ws cap n nx (bs.getD k false) wr hcap hnl.1 (hinv.out.nx_lt hcn) hinv.out.len (by omega) hg.size hown hinv.out.small
      generalize bs.getD k false = bk at q1 HC hstep
      have HS : Hid (Inv bs cap (k + 1) (addWs ws cap n nx bk) (addN cap n) (addNx cap n nx)) := hstep
      clear hstep hxB hinv hown
      go_wp2_with (go_at_call 15; refine HC.mono ?_; rintro e w2 ⟨v2, rfl, hown2, E2⟩)
      go_roundw
      case rel => exact ⟨k + 1, _, _, _, by omega, by go_num, rfl, rfl, hown2, hE.trans E2, HS⟩
      case measure => simp [intOf]; omega
    · obtain rfl : k = bs.length := by omega
      have hnl := hinv.out.n_le
      have hnx := hinv.out.nx_lt hcn
      have hmin : min (bs.length : Int) (cap : Int) = (n : Int) := by have := hinv.out.count; omega
      have HMIN : Hid (min (bs.length : Int) (cap : Int) = (n : Int)) := hmin
      have HPAD : Hid (padB ws n = true) := padB_clear hinv.out.clear hinv.out.small
      have HLEN : Hid (ws.length = (n + 63) / 64) := hinv.out.len
      have hlen1 : (ws.length : Int) ≤ ((n : Int) + 63) / 64 := by have := hinv.out.len; omega
      have hlen2 : ((n : Int) + 63) / 64 ≤ (ws.length : Int) := by have := hinv.out.len; omega
      have hz : n < cap → nx = 0 := fun h => by have h1 := hinv.out.count; have h2 := hinv.out.next; rw [if_pos (by omega)] at h2; exact h2
      have HZ : Hid (n < cap → nx = 0) := hz
      have hsm := hinv.out.small
      have HAT : Hid (∀ j, j < n → (n = cap → bit ws ((nx + j) % cap) = bs.getD (bs.length - n + j) false ∧ (nx + j) % cap < n) ∧ (n ≠ cap → bit ws j = bs.getD (bs.length - n + j) false)) := held_at hinv.out hcn
      have rW : Rv wr u5 (U ws) := rv_of_owns hown
      obtain ⟨a5, c5, hv5, _⟩ := rW
      rw [U_length] at hv5
      subst hv5
      have RW : Hid (Rv wr (.slice a5 ws.length c5) (U ws)) := rv_of_owns hown
      clear hmin hz hinv hown
      go_wp2_with fail
      refine (minInt_any _ _ _).mono ?_
      rintro e w2 ⟨rfl, rfl⟩
      rw [HMIN.out]
      go_wp2_with fail
      refine (pad_any a5 c5 ws n wr RW.out HLEN.out (by omega)).mono ?_
      rintro e w2 ⟨rfl, rfl⟩
      rw [HPAD.out]
      have d1 : decide ((nx : Int) < 0) = false := by simp
      have hnx2 : (nx : Int) < (cap : Int) := by omega
      have hfin : ∀ m, Below w.heap.size w (wr.drewN m) := fun m => (grownBy_below g1).trans (((grownBy_below hg).mono g1.size).trans (grownBy_below (grownBy_drewN wr none m) |>.mono (Nat.le_trans g1.size hg.size)))
      have HFIN : Hid (∀ m, Below w.heap.size w (wr.drewN m)) := hfin
      clear hfin
      by_cases hncap : n < cap
      · obtain rfl := HZ.out hncap
        have hne : ((n : Int) == (cap : Int)) = false := by simp; omega
        go_wp2
        go_loopw [14] (fun sj wi => ∃ (j m : Nat), j ≤ n ∧ sj = .int .i64 j ∧ wi = wr.drewN m) (fun sj _ => n - (intOf sj).toNat)
        case atStart => exact ⟨0, 0, Nat.zero_le _, rfl, rfl⟩
        case round =>
          obtain ⟨j, m, hj, rfl, rfl⟩ := hrel
          by_cases hjl : j < n
          · rcases hxB with h0 | ⟨b, o, rfl, hxB⟩
            · omega
            have q1 : wr.cell? ⟨b, o + (bs.length - n + j), none⟩ = some (.bool (bs.getD (bs.length - n + j) false)) := grownBy_cell hg (hxB _ _ (by simp [show bs.length - n + j < bs.length by omega]))
            have hat := (HAT.out j hjl).2 (by omega)
            have HC : Hid (∀ q, Calls Try.prog 14 #[.slice a5 ws.length c5, .int .i64 (j : Int)] (wr.drewN (m + q)) fun e w' => e = .returned (.bool (bs.getD (bs.length - n + j) false)) ∧ ∃ r, w' = wr.drewN (m + r)) := by
              intro q
              rw [← hat]
              exact (bitAt_any a5 c5 ws _ (wr.drewN (m + q)) RW.out hsm (by have := HLEN.out; omega) (by omega)).mono fun _ _ h => ⟨h.1, q, h.2⟩
            clear hat
            clear hxB
            generalize bs.getD (bs.length - n + j) false = z at q1 HC
            have hnb : n ≤ bs.length := hnl.2
            go_wp2
            go_quiet ((go_at_call 14; exact HC.out _))
            go_wp2
            go_roundw
            case rel => exact ⟨j + 1, _, by omega, by go_num, rfl⟩
            case measure => simp [intOf]; omega
          · go_wp2
            go_ret
            exact ⟨rfl, HFIN.out m⟩
      · have d2 : decide ((n : Int) < (cap : Int)) = false := by simp; omega
        obtain rfl : n = cap := by omega
        go_wp2
        go_loopw [14] (fun sj wi => ∃ (j m : Nat), j ≤ n ∧ sj = .int .i64 j ∧ wi = wr.drewN m) (fun sj _ => n - (intOf sj).toNat)
        case atStart => exact ⟨0, 0, Nat.zero_le _, rfl, rfl⟩
        case round =>
          obtain ⟨j, m, hj, rfl, rfl⟩ := hrel
          by_cases hjl : j < n
          · rcases hxB with h0 | ⟨b, o, rfl, hxB⟩
            · omega
            have q1 : wr.cell? ⟨b, o + (bs.length - n + j), none⟩ = some (.bool (bs.getD (bs.length - n + j) false)) := grownBy_cell hg (hxB _ _ (by simp [show bs.length - n + j < bs.length by omega]))
            have hat := (HAT.out j hjl).1 (by first | rfl | trivial)
            have e2 : ((nx : Int) + (j : Int)) % (n : Int) = (((nx + j) % n : Nat) : Int) := by simp
            have HC : Hid (∀ q, Calls Try.prog 14 #[.slice a5 ws.length c5, .int .i64 (((nx : Int) + (j : Int)) % (n : Int))] (wr.drewN (m + q)) fun e w' => e = .returned (.bool (bs.getD (bs.length - n + j) false)) ∧ ∃ r, w' = wr.drewN (m + r)) := by
              intro q
              rw [← hat.1, e2]
              exact (bitAt_any a5 c5 ws _ (wr.drewN (m + q)) RW.out hsm (by have := HLEN.out; omega) (by omega)).mono fun _ _ h => ⟨h.1, q, h.2⟩
            clear e2 hat
            clear hxB
            generalize bs.getD (bs.length - n + j) false = z at q1 HC
            have hnb : n ≤ bs.length := hnl.2
            go_wp2
            go_quiet ((go_at_call 14; exact HC.out _))
            go_wp2
            go_roundw
            case rel => exact ⟨j + 1, _, by omega, by go_num, rfl⟩
            case measure => simp [intOf]; omega
          · go_wp2
            go_ret
            exact ⟨rfl, HFIN.out m⟩
end Go.Proofs.Qxb6601294a
