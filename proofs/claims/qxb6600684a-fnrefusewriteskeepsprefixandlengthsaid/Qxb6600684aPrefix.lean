import Derived.Test.Qxb6600684aZz
namespace Go.Proofs.Qxb6600684a
open Go.RowKit

/-- The bytes that the spans take out. -/
def rem : List Int → List Int → Int
  | s :: S, e :: E => (e - s) + rem S E
  | _, _ => 0
theorem rem_step (k : Nat) (S E : List Int) (hk : k < S.length) (he : S.length = E.length) :
    rem (S.drop k) (E.drop k) = (E.getD k 0 - S.getD k 0) + rem (S.drop (k + 1)) (E.drop (k + 1)) := by
  have hk' : k < E.length := by omega
  rw [List.drop_eq_getElem_cons hk, List.drop_eq_getElem_cons hk']
  simp only [List.getD, List.getElem?_eq_getElem hk, List.getElem?_eq_getElem hk', Option.getD_some]
  rfl
theorem refuse_length (xs err : List Int) : ∀ (S E : List Int) (p : Nat), S.length = E.length → p ≤ xs.length → Chain xs.length p S E →
    ((refuseGo xs err p S E).length : Int) = xs.length - p - rem S E + S.length * err.length
  | [], [], p, _, hp, _ => by
    simp [refuseGo, rem]
    omega
  | s :: S, e :: E, p, hl, hp, ⟨h1, h2, h3, h4⟩ => by
    obtain ⟨s, rfl⟩ := Int.eq_ofNat_of_zero_le (show 0 ≤ s by omega)
    obtain ⟨e, rfl⟩ := Int.eq_ofNat_of_zero_le (show 0 ≤ e by omega)
    have ih := refuse_length xs err S E e (by simpa using hl) (by omega) h4
    have hm : ((S.length + 1 : Nat) : Int) * (err.length : Int) = (S.length : Int) * err.length + err.length := by
      rw [Int.natCast_add, Int.add_mul]; simp
    simp only [refuseGo, rem, List.length_append, List.length_take, List.length_drop, Int.toNat_natCast, List.length_cons, hm]
    omega
  | [], _ :: _, _, h, _, _ => by simp at h
  | _ :: _, [], _, h, _, _ => by simp at h

theorem isRow_rd {k : IntKind} {w : World} {a : Option Addr} {len cap : Nat} {zs : List Int}
    (h : (a = none ∧ len = 0 ∧ cap = 0 ∧ zs = []) ∨ ∃ x, a = some x ∧ len ≤ cap ∧ cap ≤ maxLen ∧ zs.length = cap ∧ (∀ i, i < zs.length → w.cell? (x.add i) = some (.int k (zs.getD i 0))) ∧ ∀ n ∈ zs, (Lit.int k n).wf = true) :
    Rd k w (.slice a len cap) (zs.take len) ∧ (zs.take len).length = len := by
  rcases h with ⟨rfl, rfl, rfl, rfl⟩ | ⟨x, rfl, h1, h2, h3, h4, h5⟩
  · exact ⟨⟨none, 0, rfl, Nat.le_refl _, Nat.zero_le _, fun _ => rfl, .inl rfl⟩, rfl⟩
  · have hl : (zs.take len).length = len := by simp; omega
    refine ⟨⟨some x, cap, by rw [hl], by omega, h2, fun h => by simp at h, ?_⟩, hl⟩
    rw [hl]
    by_cases h0 : len = 0
    · exact .inl h0
    · obtain ⟨b, o, sp⟩ := x
      have hsp : sp = none := by simpa [Addr.add] using World.cell?_spot (h4 0 (by omega))
      subst hsp
      refine .inr ⟨b, o, rfl, fun i hi => ?_⟩
      have := h4 i (by omega)
      rw [Addr.add_lit] at this
      rw [this]
      simp only [List.getD, List.getElem?_take, if_pos hi]

set_option maxHeartbeats 1000000 in
theorem prefix_walk (v0 v2 v3 : Value) (xs : List Int) (f : Int) (S E : List Int) (s : ByteArray) (w : World) (a0 : Option Addr) (c0 : Nat) (a2 : Option Addr) (c2 : Nat) (a3 : Option Addr) (c3 : Nat)
    (e0 : v0 = .slice a0 xs.length c0) (e2 : v2 = .slice a2 S.length c2) (e3 : v3 = .slice a3 E.length c3)
    (r0 : Rd .u8 w v0 xs) (r2 : Rd .i64 w v2 S) (r3 : Rd .i64 w v3 E) (hs : s.size ≤ maxLen) (hx : xs.length ≤ maxLen) (hS : S.length ≤ maxLen) (hE : E.length ≤ maxLen) :
    Calls Try.prog 5 #[v0, .int .i64 f, v2, v3, .string s] w fun e w' => e = .returned (.bool true) ∧ Below w.heap.size w w' := by
  unfold maxLen at hs hx hS hE
  subst e0 e2 e3
  go_enter Try.func5, Try.ntmps5
  go_wp2_with (first
    | (go_at_call 19; refine (bytes5_any _ _ _ _ _ _ _ _ _ _ _ _).mono ?_; rintro e w' ⟨b, rfl, hw⟩; obtain rfl := hw.symm; clear hw)
    | (go_at_call 14; refine (spans_any _ _ _ _ S E _ r2 r3 (by omega)).mono ?_; rintro e w' ⟨r, rfl, hr, m, rfl⟩))
  all_goals try (go_ret; first | exact ⟨rfl, Below.refl _ _⟩ | exact ⟨rfl, grownBy_below (grownBy_drewN _ _ _)⟩)
  have hr1 : (!r) = false := by assumption
  obtain ⟨hle, hf0, hfn, hch⟩ := hr (by simpa using hr1)
  obtain ⟨f, rfl⟩ := Int.eq_ofNat_of_zero_le hf0
  have hf : f ≤ xs.length := by omega
  have hsl : S.length ≤ 4096 := by omega
  have hml : s.size ≤ 4096 := by omega
  have hxl : xs.length ≤ 1048576 := by omega
  have HLE : Hid (S.length = E.length) := hle
  have g0 : w.grownBy (w.drewN m) none := grownBy_drewN _ _ _
  have r0' := rd_grown r0 g0
  have r2' := rd_grown r2 g0
  have r3' := rd_grown r3 g0
  clear hr hr1 hle hf0 hfn r0 r2 r3
  refine (clone_any _ xs _ r0' hxl).mono ?_
  rintro e w1 ⟨vD, rfl, hD1, g1⟩
  go_wp2_with fail
  refine (cloneInts_any _ S _ (rd_grown r2' g1) (by omega)).mono ?_
  rintro e w2 ⟨vS, rfl, hS2, g2⟩
  go_wp2_with fail
  refine (cloneInts_any _ E _ (rd_grown (rd_grown r3' g1) g2) (by have := HLE.out; omega)).mono ?_
  rintro e w3 ⟨vE, rfl, hE3, g3⟩
  have hD3 := owns_grown (owns_grown hD1 g2) g3
  obtain ⟨vh, hh1, hh2, hh3⟩ := own_slice_hi size5 hD3 f hf
  go_wp2_with fail
  refine (clone_any vh (xs.take f) w3 (rd_of_owns hh2) (by simp; omega)).mono ?_
  rintro e w4 ⟨vH, rfl, hH4, g4⟩
  have hD4 := owns_grown hD3 g4
  have rS := rd_of_owns (owns_grown (owns_grown hS2 g3) g4)
  have rE := rd_of_owns (owns_grown hE3 g4)
  have RS : Hid (Rd .i64 w4 vS S) := rS
  have RE : Hid (Rd .i64 w4 vE E) := rE
  have G14 : w1.grownBy w4 none := grownBy_trans (grownBy_trans g2 g3 (.inl rfl)) g4 (.inl rfl)
  have G34 : (w.drewN m).grownBy w4 none := grownBy_trans g1 G14 (.inl rfl)
  have HHL : Hid (∀ k, vH.ownBlock = some k → w3.heap.size ≤ k ∧ k < w4.heap.size) := hH4.lt
  have HDL : Hid (∀ k, vD.ownBlock = some k → w.heap.size ≤ k ∧ k < w1.heap.size) := hD1.lt
  have HS3 : w1.heap.size ≤ w3.heap.size := Nat.le_trans g2.size g3.size
  clear hh1 hh2 hh3 hD3 hS2 hE3 g2 g3 g4 g1 r0' r2' r3' hD1
  obtain ⟨aS, cS, rfl, hc1, hm1, hn1, hx1⟩ := rS
  obtain ⟨aE, cE, rfl, hc2, hm2, hn2, hx2⟩ := rE
  rw [← HLE.out] at hx2
  obtain ⟨aD, cD, hvD⟩ : ∃ a c, vD = .slice a xs.length c := by
    rcases owns_form hD4 with ⟨h, h0⟩ | ⟨g, c, h⟩
    · exact ⟨none, 0, by rw [h, h0]⟩
    · exact ⟨_, c, h⟩
  subst hvD
  go_wp2
  go_loopw [12, 13] (fun t i wr => ∃ (k p : Nat) (r : Int), k ≤ S.length ∧ i = .int .i64 k ∧ t = .int .i64 r ∧ 0 ≤ r ∧ r ≤ p ∧ p ≤ xs.length ∧ Chain xs.length p (S.drop k) (E.drop k) ∧ Hid (r + rem (S.drop k) (E.drop k) = rem S E) ∧ ∃ j, wr = w4.drewN j) (fun _ i _ => S.length - (intOf i).toNat)
  case atStart => exact ⟨0, f, 0, Nat.zero_le _, rfl, rfl, by omega, by omega, hf, by simpa using hch, by simp [Hid], 0, rfl⟩
  case round =>
    obtain ⟨k, p, r, hk, rfl, rfl, hr0, hrp, hpn, hck, hre, j, rfl⟩ := hrel
    by_cases hlt : k < S.length
    · rcases hx1 with h0 | ⟨b, o, rfl, hx1⟩
      · omega
      rcases hx2 with h0 | ⟨b', o', rfl, hx2⟩
      · omega
      have q1 := hx1 k hlt
      have q2 := hx2 k hlt
      obtain ⟨c1, c2, c3, c4⟩ := chain_at hlt HLE.out hck
      have HO : Hid (r + ((E.getD k 0 - S.getD k 0) + rem (S.drop (k + 1)) (E.drop (k + 1))) = rem S E) := by rw [← rem_step k S E hlt HLE.out]; exact hre.out
      have hlE : k < E.length := by have := HLE.out; omega
      clear hx1 hx2 hck hre hch
      generalize S.getD k 0 = z1 at *
      generalize E.getD k 0 = z2 at *
      obtain ⟨t, rfl⟩ := Int.eq_ofNat_of_zero_le (show 0 ≤ z2 by omega)
      go_wp2
      go_quiet (fail)
      go_wp2
      go_roundw
      case rel => 
        exact ⟨k + 1, t, _, by omega, by go_num, rfl, by omega, by omega, by omega, c4, by have := HO.out; unfold Hid; omega, _, rfl⟩
      case measure => simp [intOf]; omega
    · obtain rfl : k = S.length := by omega
      have hrr : r = rem S E := by
        have := hre.out
        rw [List.drop_of_length_le (Nat.le_refl _)] at this
        simpa [rem] using this
      have gW : w4.grownBy (w4.drewN j) none := grownBy_drewN _ _ _
      have hDW := owns_grown hD4 gW
      have HC := zz_any _ _ _ _ xs f S E s (w4.drewN j) hDW (Nat.le_trans G34.size gW.size) (rd_grown RS.out gW) (rd_grown RE.out gW) hf hxl HLE.out hsl hml hch
      have hol : (((xs.take f ++ refuseGo xs (errI s) f S E).length : Nat) : Int) = xs.length - r + S.length * (s.size + 3) := by
        have h1 := refuse_length xs (errI s) S E f HLE.out hf hch
        have h3 : ((s.size + 3 : Nat) : Int) = (s.size : Int) + 3 := by omega
        rw [errI_length, h3] at h1
        rw [List.length_append, List.length_take, Nat.min_eq_left hf, hrr, Int.natCast_add, h1]
        omega
      have hot : (xs.take f ++ refuseGo xs (errI s) f S E).take f = xs.take f := by
        rw [List.take_append_of_le_length (by simp; omega), List.take_take, Nat.min_self]
      have hfo : f ≤ (xs.take f ++ refuseGo xs (errI s) f S E).length := by simp; omega
      generalize xs.take f ++ refuseGo xs (errI s) f S E = out at HC hol hot hfo
      have hp1 : 0 ≤ (S.length : Int) * ((s.size : Int) + 3) := Int.mul_nonneg (by omega) (by omega)
      have hp2 : (S.length : Int) * ((s.size : Int) + 3) ≤ 4096 * 4099 := Int.mul_le_mul (by omega) (by omega) (by omega) (by omega)
      have o1 : (out.length : Int) ≤ xs.length - r + S.length * ((s.size : Int) + 3) := by omega
      have o2 : xs.length - r + S.length * ((s.size : Int) + 3) ≤ (out.length : Int) := by omega
      have HOT : Hid (out.take f = xs.take f) := hot
      have G4W : (w.drewN m).grownBy (w4.drewN j) none := grownBy_trans G34 gW (.inl rfl)
      have HH : Hid (Rd .u8 (w4.drewN j) vH (xs.take f)) := rd_grown (rd_of_owns hH4) gW
      clear hol hot hre hrr hck hch hD4 hH4 hx1 hx2 RS RE hn1 hn2
      have hfin : ∀ (w5 : World) (vG : Value), Ext (w4.drewN j) (.slice aD xs.length cD) w5 vG → Below w.heap.size w w5 ∧ Rd .u8 w5 vH (xs.take f) := by
        intro w5 vG E5
        constructor
        · refine Below.trans (grownBy_below (grownBy_trans g0 G4W (.inl rfl))) ((Below.refl _ _).grown E5.grown (Nat.le_trans G34.size gW.size) fun k hk => (HDL.out k hk).1)
        · refine rd_other HH.out E5.grown fun b hb h => ?_
          have h1 := (HHL.out b hb).1
          have h2 := (HDL.out b h.symm).2
          omega
      have HF : Hid (∀ (w5 : World) (vG : Value), Ext (w4.drewN j) (.slice aD xs.length cD) w5 vG → Below w.heap.size w w5 ∧ Rd .u8 w5 vH (xs.take f)) := hfin
      clear hfin G4W G34 gW G14 hDW g0
      go_wp2_with fail
      refine HC.mono ?_
      rintro e w5 ⟨vG, rfl, hG, E5⟩
      obtain ⟨b5, r5⟩ := HF.out w5 vG E5
      clear HC E5
      rcases owns_form hG with ⟨h, h0⟩ | ⟨g, c, h⟩
      · subst h
        obtain rfl : f = 0 := by omega
        go_wp2_with (go_at_call 18; refine (equal_any _ _ [] _ ⟨none, 0, rfl, Nat.le_refl _, Nat.zero_le _, fun _ => rfl, .inl rfl⟩ (by simpa using r5) (by simp)).mono ?_; rintro e w6 ⟨rfl, q, rfl⟩)
        go_ret
        exact ⟨rfl, below_drewN b5 _⟩
      · subst h
        have hfc : f ≤ c := by
          rcases hG.2 with ⟨h, _⟩ | ⟨_, _, _, h, _, _, h2, _⟩
          · simp at h
          · simp only [Value.slice.injEq, true_and] at h
            obtain ⟨_, rfl⟩ := h
            omega
        have hG2 := owns_take hG hfo
        rw [← List.map_take, HOT.out] at hG2
        have rG := rd_of_owns hG2
        clear hG hG2
        go_wp2_with (go_at_call 18; refine (equal_any _ _ (xs.take f) _ rG r5 (by simp; omega)).mono ?_; rintro e w6 ⟨rfl, q, rfl⟩)
        go_ret
        exact ⟨rfl, below_drewN b5 _⟩
end Go.Proofs.Qxb6600684a
