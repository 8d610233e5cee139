import Derived.Test.Qxb6601294aAgreeOut
namespace Go.Proofs.Qxb6601294a
open Go.RowKit

theorem owns_off {w w' : World} {base : Nat} {e : TypeId} {size : Nat} {v : Value} {n : Nat} {xs : List Value} {row : Option Nat} (h : w.ownsRow base e size v n xs) (hg : w.grownBy w' row) (hne : ∀ k, v.ownBlock = some k → row ≠ some k) : w'.ownsRow base e size v n xs := by
  refine h.kept hg ?_
  cases hv : v.ownBlock with
  | none => exact .inl rfl
  | some k => exact .inr (fun e => hne k hv e.symm)

set_option maxHeartbeats 2000000 in
theorem agree_walk (cap n nx : Nat) (a1 : Option Addr) (c1 : Nat) (ws : List Nat) (b : Bool) (w : World) (r1 : Rv w (.slice a1 ws.length c1) (U ws)) (hsm : Small ws) (hL : ws.length ≤ 1024) (hcap : (cap : Int) ≤ 9223372036854775807) (hc1 : 1 ≤ cap) (hnc : n ≤ cap) (hnx : nx < cap) (hn1 : n ≤ ws.length * 64) (hwl : ws.length = (n + 63) / 64) :
    Calls Try.prog 3 #[.int .i64 (cap : Int), .slice a1 ws.length c1, .int .i64 (n : Int), .int .i64 (nx : Int), .bool b] w fun e w' => e = .returned (.bool true) ∧ Below w.heap.size w w' := by
  obtain ⟨i0, hi, hz0, hz1, hz2⟩ := info_parts info4
  have HWL : Hid (ws.length = (n + 63) / 64) := hwl
  have d1 : decide ((cap : Int) < 1) = false := by simp; omega
  have d2 : decide ((n : Int) < 0) = false := by simp
  have d3 : decide ((cap : Int) < (n : Int)) = false := by simp; omega
  have d4 : decide ((nx : Int) < 0) = false := by simp
  have d5 : decide ((cap : Int) ≤ (nx : Int)) = false := by simp; omega
  have d6 : decide ((ws.length : Int) * 64 < (n : Int)) = false := by simp; omega
  have l1 : (ws.length : Int) ≤ ((n : Int) + 63) / 64 := by omega
  have l2 : ((n : Int) + 63) / 64 ≤ (ws.length : Int) := by omega
  have hn65 : n ≤ 65536 := by omega
  clear hwl
  go_enter Try.func3, Try.ntmps3
  go_wp2_with (first | (go_at_call 11; refine (bytes11_any _ _ _ _ _ _ _ _).mono ?_; rintro e w' ⟨bz, rfl, hw⟩; obtain rfl := hw.symm; clear hw) | (go_at_call 12; refine (pad_any a1 c1 ws n _ r1 HWL.out (by omega)).mono ?_; rintro e w' ⟨rfl, rfl⟩))
  all_goals try (go_ret; exact ⟨rfl, Below.refl _ _⟩)
  have hp : (!padB ws n) = false := by assumption
  have hclr : ∀ i, n ≤ i → bit ws i = false := clear_padB HWL.out (by simpa using hp)
  have HCLR : Hid (∀ i, n ≤ i → bit ws i = false) := hclr
  clear hclr hp
  refine (cloneU64_any _ ws _ r1 (by omega)).mono ?_
  rintro e w1 ⟨vW, rfl, hW1, g1⟩
  obtain ⟨aW, cW, hvW⟩ : ∃ a c, vW = .slice a ws.length c := by
    rcases hW1.2 with ⟨h, h0⟩ | ⟨g, cap, cur, h, _⟩
    · exact ⟨none, 0, by rw [h, h0]⟩
    · exact ⟨_, _, h⟩
  subst hvW
  have HW1 : Hid (w1.ownsRow w.heap.size 38 1 (.slice aW ws.length cW) ws.length (U ws)) := hW1
  clear hW1 r1
  go_wp2_with (at_make; refine wpList_make_full _ rfl _ _ 26 rfl w1.heap.size 4 i0 (.bool false) 1 Try.underlying26 hi hz0 hz1 _ _ _ _ n rfl rfl rfl rfl ?b1 ?b2 ?b3 ?_)
  case b1 => rw [hz2]; omega
  case b2 => unfold maxLen; omega
  case b3 => exact Nat.le_refl _
  intro w2 hown2 hg2
  have HBL := bitsL_length ws n
  go_wp2
  go_loopw [12] (fun si wr => ∃ k : Nat, k ≤ n ∧ si = .int .i64 k ∧ wr.ownsRow w1.heap.size 4 1 (.slice (some ⟨w1.heap.size, 0, none⟩) n n) n (mixV (.bool false) (Bo (bitsL ws n)) k) ∧ w1.grownBy wr none) (fun si _ => n - (intOf si).toNat)
  case atStart => exact ⟨0, Nat.zero_le _, rfl, by rw [mixV_zero, Bo_length, bitsL_length]; simpa [toList_madeCells_one, Value.cells] using hown2, hg2⟩
  case round =>
    obtain ⟨k, hk, rfl, hown, hg⟩ := hrel
    by_cases hlt : k < n
    · have hkm : k < (Bo (bitsL ws n)).length := by rw [Bo_length, bitsL_length]; exact hlt
      have hdst : wr.cell? ⟨w1.heap.size, k, none⟩ = (mixV (.bool false) (Bo (bitsL ws n)) k)[k]? := hown.cellAt k (by omega)
      rw [mixV_at _ _ _ hkm] at hdst
      have hfz := hown.frozenAt k
      have R := hown.stored k (.bool (bit ws k))
      have e : Value.bool (bit ws k) = (Bo (bitsL ws n))[k] := by
        have h1 := Bo_at (bitsL ws n) k (by rw [bitsL_length]; exact hlt)
        rw [List.getElem?_eq_getElem hkm, bitsL_at ws n k hlt] at h1
        exact (Option.some.inj h1).symm
      rw [e, mixV_step _ _ _ hkm, ← e] at R
      clear e
      have HR : Hid (_ ∧ _) := R
      have hz : w1.heap.size < wr.heap.size := (hown.lt _ rfl).2
      have RW : Rv wr (.slice aW ws.length cW) (U ws) := rv_grown (rv_of_owns HW1.out) hg
      clear R
      go_wp2_with (go_at_call 14; refine (bitAt_any aW cW ws k wr RW hsm (by have := HWL.out; omega) (by omega)).mono ?_; rintro e w' ⟨rfl, hw⟩; obtain rfl := hw.symm; clear hw)
      go_roundw
      case rel => exact ⟨k + 1, by omega, by go_num, HR.out.1, grownBy_trans hg HR.out.2 (.inr fun j h => by cases h; exact Nat.le_refl _)⟩
      case measure => simp [intOf]; omega
    · obtain rfl : k = n := by omega
      have hring : wr.ownsRow w1.heap.size 4 1 (.slice (some ⟨w1.heap.size, 0, none⟩) (bitsL ws k).length k) (bitsL ws k).length (Bo (bitsL ws k)) := by
        have e : mixV (.bool false) (Bo (bitsL ws k)) k = Bo (bitsL ws k) := by
          have := mixV_end (.bool false) (Bo (bitsL ws k))
          rwa [Bo_length, bitsL_length] at this
        rw [e] at hown
        rw [bitsL_length]
        exact hown
      have hWr := owns_grown HW1.out hg
      have HC := zzbit_any w.heap.size _ ws cap k nx b wr hcap hnc hnx HWL.out (by omega) (Nat.le_trans g1.size hg.size) hWr hsm
      have HWlt : Hid (∀ q, (Value.slice aW ws.length cW).ownBlock = some q → w.heap.size ≤ q ∧ q < w1.heap.size) := HW1.out.lt
      have hrz : w1.heap.size < wr.heap.size := (hring.lt _ rfl).2
      have hold := agree_old ws cap k nx hnc hnx
      have hnext := agree_next ws cap k nx
      have hrl := wRing_length ws cap k nx b
      have hat := agree_at (b := b) HWL.out hnc hnx HCLR.out
      have hclr2 := agree_clear (b := b) HWL.out hnc hnx HCLR.out
      have hlen2 := addWs_length ws cap k nx b HWL.out
      have hsm2 := addWs_small cap k nx b hsm
      have hNle : addN cap k ≤ 65537 := by unfold addN; split <;> omega
      have HC2 := fun (w5 : World) (h : w5.ownsRow w1.heap.size 4 1 (.slice (some ⟨w1.heap.size, 0, none⟩) (bitsL ws k).length k) (bitsL ws k).length (Bo (bitsL ws k))) (h2 : w1.heap.size ≤ w5.heap.size) => zzwin_any w1.heap.size _ (bitsL ws k) cap nx b w5 hcap hnx (by rw [bitsL_length]; omega) h2 h
      rw [hold, hnext, bitsL_length] at HC2
      clear hold hnext
      generalize addWs ws cap k nx b = W2 at HC hat hclr2 hlen2 hsm2
      generalize wRing (bitsL ws k) cap nx b = R at HC2 hat hrl
      generalize addOld ws cap k nx = o at HC HC2
      generalize addN cap k = N at HC hat hclr2 hlen2 hrl hNle
      generalize addNx cap k nx = NX at HC HC2
      rw [bitsL_length] at hring
      have HRING : Hid (wr.ownsRow w1.heap.size 4 1 (.slice (some ⟨w1.heap.size, 0, none⟩) k k) k (Bo (bitsL ws k))) := hring
      have HC2' : Hid (_) := HC2
      have HHAT : Hid (_) := hat
      have HPAD : Hid (padB W2 N = true) := padB_clear hclr2 hsm2
      have HLEN2 : Hid (W2.length = (N + 63) / 64) := hlen2
      have HRL : Hid (R.length = N) := hrl
      have m1 : (W2.length : Int) ≤ ((N : Int) + 63) / 64 := by omega
      have m2 : ((N : Int) + 63) / 64 ≤ (W2.length : Int) := by omega
      clear hown hring hWr HC2 hat hclr2 hlen2 hrl hown2 HBL
      go_wp2_with fail
      refine HC.mono ?_
      rintro e w5 ⟨v5, rfl, hown5, E5⟩
      have hring5 := owns_off HRING.out E5.grown (fun q hq h => by
        have h1 : w1.heap.size = q := by simpa [Value.ownBlock] using hq
        have := (HWlt.out q h).2
        omega)
      have h5 : w1.heap.size < w5.heap.size := Nat.lt_of_lt_of_le hrz E5.grown.size
      have HC3 := HC2'.out w5 hring5 (by omega)
      clear HC HC2'
      go_wp2_with fail
      refine HC3.mono ?_
      rintro e w6 ⟨v6, rfl, hown6, E6⟩
      have hw6 := owns_off hown5 E6.grown (fun q hq h => by
        have h1 : w1.heap.size = q := by simpa [Value.ownBlock] using h
        rcases E5.lies with h2 | ⟨r, h2, h3⟩
        · rw [h2] at hq; have := (HWlt.out q hq).2; omega
        · rw [h2] at hq; cases hq; omega)
      have bel : Below w.heap.size w w6 := by
        refine (grownBy_below g1).trans (((grownBy_below hg).mono g1.size).trans ?_)
        have b5 : Below w.heap.size wr w5 := (Below.refl _ _).grown E5.grown (Nat.le_trans g1.size hg.size) (fun q hq => (HWlt.out q hq).1)
        exact b5.trans ((Below.refl _ _).grown E6.grown (Nat.le_trans g1.size (by omega)) (fun q hq => by cases hq; exact g1.size))
      obtain ⟨a5, c5, hv5⟩ : ∃ a c, v5 = .slice a W2.length c := by
        rcases hw6.2 with ⟨h, h0⟩ | ⟨g, cap, cur, h, _⟩
        · exact ⟨none, 0, by rw [h, h0]⟩
        · exact ⟨_, _, h⟩
      subst hv5
      have rv6 : Rv w6 v6 (Bo R) := rv_of_owns hown6
      obtain ⟨a6, c6, hv6, _, _, _, hx6⟩ := rv6
      rw [Bo_length, HRL.out] at hv6 hx6
      subst hv6
      have RW : Rv w6 (.slice a5 W2.length c5) (U W2) := rv_of_owns hw6
      have BEL : Hid (Below w.heap.size w w6) := bel
      clear HC3 hown6 hown5 hring5 E5 E6 hw6 bel
      have hflag : ∃ fl : Bool, (!decide (k < cap)) = fl ∧ ((k : Int) == (cap : Int)) = fl := by
        by_cases h : k < cap
        · exact ⟨false, by simp [h], by simp; omega⟩
        · exact ⟨true, by simp [h], by simp; omega⟩
      obtain ⟨fl, hf1, hf2⟩ := hflag
      rw [hf1]
      have HF2 : Hid (_ = _) := hf2
      go_wp2_with fail
      refine (pad_any a5 c5 W2 N w6 RW HLEN2.out (by omega)).mono ?_
      rintro e w7 ⟨rfl, rfl⟩
      rw [HPAD.out]
      go_wp2
      go_loopw [21] (fun sj wi => ∃ (j m : Nat), j ≤ N ∧ sj = .int .i64 j ∧ wi = w6.drewN m) (fun sj _ => N - (intOf sj).toNat)
      case atStart => exact ⟨0, 0, Nat.zero_le _, rfl, rfl⟩
      case round =>
        obtain ⟨j, m, hj, rfl, rfl⟩ := hrel
        by_cases hjl : j < N
        · rcases hx6 with h0 | ⟨b6, o6, rfl, hx6⟩
          · omega
          have q1 : w6.cell? ⟨b6, o6 + j, none⟩ = some (.bool (R.getD j false)) := hx6 j _ (Bo_at R j (by rw [HRL.out]; exact hjl))
          have HC4 : Hid (∀ q, Calls Try.prog 14 #[.slice a5 W2.length c5, .int .i64 (j : Int)] (w6.drewN (m + q)) fun e w' => e = .returned (.bool (R.getD j false)) ∧ ∃ r, w' = w6.drewN (m + r)) := by
            intro q
            rw [← HHAT.out j hjl]
            exact (bitAt_any a5 c5 W2 _ (w6.drewN (m + q)) RW hsm2 (by have := HLEN2.out; omega) (by omega)).mono fun _ _ h => ⟨h.1, q, h.2⟩
          clear hx6
          generalize R.getD j false = z at q1 HC4
          go_wp2
          go_quiet ((go_at_call 14; exact HC4.out _))
          go_wp2
          go_roundw
          case rel => exact ⟨j + 1, _, by omega, by go_num, rfl⟩
          case measure => simp [intOf]; omega
        · go_wp2
          go_ret
          exact ⟨rfl, below_drewN BEL.out _⟩
end Go.Proofs.Qxb6601294a
