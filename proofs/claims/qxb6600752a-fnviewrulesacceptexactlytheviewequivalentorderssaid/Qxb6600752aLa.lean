import Derived.Test.Qxb6600752aZv
import Derived.Test.Qxb6600752aPf
import Derived.Test.Qxb6600752aReplay
import Derived.Deep.CutBlock
import Derived.Deep.QuietTactic
import Derived.BigQuiet
namespace Go.Proofs.Qxb6600752a
open Go.RowKit Go.Maps

theorem irow_of {w : World} {a : Option Addr} {c n : Nat} {zs : List Int} {b : Nat} {e : TypeId} (h : w.ownsRow b e 1 (.slice a n c) zs.length (zs.map (Value.int .i64))) : IRow w a zs := by
  obtain ⟨a', cap, hv, _, _, _, hx⟩ := rv_of_owns h
  obtain ⟨rfl, -, -⟩ := Value.slice.inj hv
  exact hx.imp (by simp) fun ⟨b, o, h1, h2⟩ => ⟨b, o, h1, fun i hi => h2 i _ (by simp [hi])⟩
theorem urow_of {w : World} {a : Option Addr} {c n : Nat} {us : List Nat} {b : Nat} {e : TypeId} (h : w.ownsRow b e 1 (.slice a n c) us.length ((us.map fun (u : Nat) => (u : Int)).map (Value.int .u8))) : URow w a us := by
  obtain ⟨a', cap, hv, _, _, _, hx⟩ := rv_of_owns h
  obtain ⟨rfl, -, -⟩ := Value.slice.inj hv
  exact hx.imp (by simp) fun ⟨b, o, h1, h2⟩ => ⟨b, o, h1, fun i hi => h2 i _ (by simp [hi])⟩
theorem srow_of {w : World} {a : Option Addr} {c n : Nat} {ss : List ByteArray} {b : Nat} {e : TypeId} (h : w.ownsRow b e 1 (.slice a n c) ss.length (ss.map Value.string)) : SRow w a ss := by
  obtain ⟨a', cap, hv, _, _, _, hx⟩ := rv_of_owns h
  obtain ⟨rfl, -, -⟩ := Value.slice.inj hv
  exact hx.imp (by simp) fun ⟨b, o, h1, h2⟩ => ⟨b, o, h1, fun i hi => h2 i _ (by simp [hi])⟩
theorem brow_of {w : World} {a : Option Addr} {c n : Nat} {us : List Bool} {b : Nat} {e : TypeId} (h : w.ownsRow b e 1 (.slice a n c) us.length (us.map Value.bool)) : BRow w a us := by
  obtain ⟨a', cap, hv, _, _, _, hx⟩ := rv_of_owns h
  obtain ⟨rfl, -, -⟩ := Value.slice.inj hv
  exact hx.imp (by simp) fun ⟨b, o, h1, h2⟩ => ⟨b, o, h1, fun i hi => h2 i _ (by simp [hi])⟩
theorem nrow_of {w : World} {a : Option Addr} {c n : Nat} {us : List Nat} {b : Nat} {e : TypeId} (h : w.ownsRow b e 1 (.slice a n c) us.length (us.map fun (u : Nat) => Value.int .i64 (u : Int))) : NRow w a us := by
  obtain ⟨a', cap, hv, _, _, _, hx⟩ := rv_of_owns h
  obtain ⟨rfl, -, -⟩ := Value.slice.inj hv
  exact hx.imp (by simp) fun ⟨b, o, h1, h2⟩ => ⟨b, o, h1, fun i hi => h2 i _ (by simp [hi])⟩
theorem info3 : (Try.prog.info? 3).map (fun i => (i.zero, i.size, i.bytes)) = some (some (.int .i64 0), 1, 8) := by kernel_rfl

/-- The law's columns in memory. -/
structure Rs (wx : World) (b0 b1 b2 b3 b4 b5 : Option Addr) (ts : List Int) (ev ac : List Nat) (ss : List ByteArray) (pm : List Nat) (cm : List Bool) : Prop where
  h0 : IRow wx b0 ts
  h1 : URow wx b1 ev
  h2 : URow wx b2 ac
  h3 : SRow wx b3 ss
  h4 : URow wx b4 pm
  h5 : BRow wx b5 cm
theorem Rs.grown {wx wy : World} {b0 b1 b2 b3 b4 b5 : Option Addr} {ts : List Int} {ev ac : List Nat} {ss : List ByteArray} {pm : List Nat} {cm : List Bool} (h : Rs wx b0 b1 b2 b3 b4 b5 ts ev ac ss pm cm) (g : wx.grownBy wy none) : Rs wy b0 b1 b2 b3 b4 b5 ts ev ac ss pm cm :=
  ⟨h.h0.grown g, h.h1.grown g, h.h2.grown g, h.h3.grown g, h.h4.grown g, h.h5.grown g⟩

set_option maxRecDepth 8000 in
set_option maxHeartbeats 4000000 in
theorem law_any (a0 a1 a2 a3 a4 : Option Addr) (c0 c1 c2 c3 c4 : Nat) (ts : List Int) (ev ac : List Nat) (ss : List ByteArray) (pm : List Nat) (w : World)
    (r0 : Rv w (.slice a0 ts.length c0) (ts.map (Value.int .i64))) (r1 : Rv w (.slice a1 ev.length c1) ((ev.map fun (u : Nat) => (u : Int)).map (Value.int .u8))) (r2 : Rv w (.slice a2 ac.length c2) ((ac.map fun (u : Nat) => (u : Int)).map (Value.int .u8))) (r3 : Rv w (.slice a3 ss.length c3) (ss.map Value.string)) (r4 : Rv w (.slice a4 pm.length c4) ((pm.map fun (u : Nat) => (u : Int)).map (Value.int .u8)))
    (h0 : IRow w a0 ts) (h3 : SRow w a3 ss) (h4 : URow w a4 pm)
    (m0 : ts.length ≤ maxLen) (m1 : ev.length ≤ maxLen) (m2 : ac.length ≤ maxLen) (m3 : ss.length ≤ maxLen) (m4 : pm.length ≤ maxLen) (hz : ∀ z ∈ ts, (Lit.int .i64 z).wf = true) (hu1 : ∀ u ∈ ev, u < 256) (hu2 : ∀ u ∈ ac, u < 256) (hu4 : ∀ u ∈ pm, u < 256) (hs : ∀ s ∈ ss, s.size ≤ maxLen) :
    Calls Try.prog 4 #[.slice a0 ts.length c0, .slice a1 ev.length c1, .slice a2 ac.length c2, .slice a3 ss.length c3, .slice a4 pm.length c4] w (RetB fun b w' => b = true ∧ w.grownBy w' none) := by
  have HR : Hid (_ ∧ _ ∧ _ ∧ _ ∧ _) := And.intro r0 (And.intro r1 (And.intro r2 (And.intro r3 r4)))
  have HM : Hid (ts.length ≤ maxLen ∧ ev.length ≤ maxLen ∧ ac.length ≤ maxLen ∧ ss.length ≤ maxLen ∧ pm.length ≤ maxLen) := ⟨m0, m1, m2, m3, m4⟩
  clear r0 r1 r2 r3 r4
  unfold maxLen at m0 m1 m2 m3 m4
  go_enter Try.func4, Try.ntmps4
  go_wp2_with fail
  refine (bytes22_any a0 a1 a2 a3 a4 ts.length c0 ev.length c1 ac.length c2 c3 pm.length c4 ss w HM.out.1 HM.out.2.1 HM.out.2.2.1 HM.out.2.2.2.1 HM.out.2.2.2.2 hs h3).mono ?_
  rintro e w' ⟨b, rfl, hw⟩
  obtain rfl := hw.symm
  clear hw
  cases b
  case false =>
    go_wp2
    go_ret
    exact retB true ⟨rfl, World.grownBy.refl _ _⟩
  go_wp2_with fail
  refine (big9_any a0 a1 a2 a3 a4 ts.length c0 ev.length c1 ac.length c2 c3 pm.length c4 ss w HM.out.1 HM.out.2.1 HM.out.2.2.1 HM.out.2.2.2.1 HM.out.2.2.2.2 hs h3).mono ?_
  rintro e w' ⟨b, rfl, hw⟩
  obtain rfl := hw.symm
  clear hw
  cases b
  case true =>
    go_wp2
    go_ret
    exact retB true ⟨rfl, World.grownBy.refl _ _⟩
  go_wp2_with fail
  all_goals try (go_ret; exact retB true ⟨rfl, World.grownBy.refl _ _⟩)
  have l0 : ts.length ≤ 64 := by omega
  have l1 : ev.length ≤ 4096 := by omega
  have l2 : ac.length ≤ 4096 := by omega
  have l3 : ss.length ≤ 4096 := by omega
  have l4 : pm.length ≤ 64 := by omega
  clear m0 m1 m2 m3 m4 HM
  refine (shape_any a0 a1 a2 a3 c0 ev.length c1 ac.length c2 ss.length c3 ts w (by omega) h0 hz).mono ?_
  rintro e w1 ⟨b, rfl, g1, hb⟩
  cases b
  case false =>
    go_wp2
    go_ret
    exact retB true ⟨rfl, g1⟩
  have HE : Hid ((ev.length = ac.length ∧ ev.length = ss.length) ∧ (0 < ev.length → 0 < ts.length) ∧ ts.Nodup) := hb rfl
  clear hb
  go_wp2_with fail
  refine (perm_any a4 ts.length c4 pm w1 (by omega) (h4.grown g1) hu4).mono ?_
  rintro e w2 ⟨b, rfl, g2, hb⟩
  cases b
  case false =>
    go_wp2
    go_ret
    exact retB true ⟨rfl, grownBy_trans g1 g2 (.inl rfl)⟩
  have HP : Hid (pm.length = ts.length ∧ pm.Nodup ∧ ∀ u ∈ pm, u < ts.length) := hb rfl
  clear hb
  go_wp2_with fail
  have G2 := grownBy_trans g1 g2 (.inl rfl)
  clear g1 g2 h0 h3 h4
  refine (cloneI_any (.slice a0 ts.length c0) ts w2 (rv_grown HR.out.1 G2) (by omega)).mono ?_
  rintro e w3 ⟨v0, rfl, o0, g3⟩
  obtain ⟨b0, d0, rfl⟩ := row_form o0
  go_wp2_with fail
  have G3 := grownBy_trans G2 g3 (.inl rfl)
  refine (cloneU_any (.slice a1 ev.length c1) (ev.map fun (u : Nat) => (u : Int)) w3 (rv_grown HR.out.2.1 G3) (by rw [List.length_map]; omega)).mono ?_
  rintro e w4 ⟨v1, rfl, o1, g4⟩
  rw [List.length_map] at o1
  obtain ⟨b1, d1, rfl⟩ := row_form o1
  go_wp2_with fail
  have G4 := grownBy_trans G3 g4 (.inl rfl)
  refine (cloneU_any (.slice a2 ac.length c2) (ac.map fun (u : Nat) => (u : Int)) w4 (rv_grown HR.out.2.2.1 G4) (by rw [List.length_map]; omega)).mono ?_
  rintro e w5 ⟨v2, rfl, o2, g5⟩
  rw [List.length_map] at o2
  obtain ⟨b2, d2, rfl⟩ := row_form o2
  go_wp2_with fail
  have G5 := grownBy_trans G4 g5 (.inl rfl)
  refine (cloneS_any (.slice a3 ss.length c3) ss w5 (rv_grown HR.out.2.2.2.1 G5) (by omega)).mono ?_
  rintro e w6 ⟨v3, rfl, o3, g6⟩
  obtain ⟨b3, d3, rfl⟩ := row_form o3
  go_wp2_with fail
  have G6 := grownBy_trans G5 g6 (.inl rfl)
  refine (cloneU_any (.slice a4 pm.length c4) (pm.map fun (u : Nat) => (u : Int)) w6 (rv_grown HR.out.2.2.2.2 G6) (by rw [List.length_map]; omega)).mono ?_
  rintro e w7 ⟨v4, rfl, o4, g7⟩
  rw [List.length_map] at o4
  obtain ⟨b4, d4, rfl⟩ := row_form o4
  have G7 := grownBy_trans G6 g7 (.inl rfl)
  have k4 := g7
  have k3 := grownBy_trans g6 k4 (.inl rfl)
  have k2 := grownBy_trans g5 k3 (.inl rfl)
  have k1 := grownBy_trans g4 k2 (.inl rfl)
  have R0 := (irow_of o0).grown k1
  have R1 := (urow_of o1).grown k2
  have R2 := (urow_of o2).grown k3
  have R3 := (srow_of o3).grown k4
  have R4 := urow_of o4
  clear o0 o1 o2 o3 o4 k1 k2 k3 k4 G2 G3 G4 G5 G6 g3 g4 g5 g6 g7 HR
  go_wp2_with fail
  refine (com_any b0 b1 b2 ts.length d0 d1 d2 ev ac w7 (by omega) (by omega) HE.out.1.1.symm HE.out.2.1 R1 R2 hu1 hu2).mono ?_
  rintro e w8 ⟨gc, rfl, o5, g8⟩
  obtain ⟨cm, hcm⟩ : ∃ cm, cm = comTo ts.length ev ac ev.length := ⟨_, rfl⟩
  have hcl : cm.length = ts.length := by rw [hcm]; exact comTo_length _ _ _ _
  have HCM : Hid (cm = comTo ts.length ev ac ev.length) := hcm
  rw [← hcm] at o5
  have HRS : Hid (Rs w8 b0 b1 b2 b3 b4 (some ⟨gc, 0, none⟩) ts ev ac ss pm cm ∧ w.grownBy w8 none) := ⟨⟨R0.grown g8, R1.grown g8, R2.grown g8, R3.grown g8, R4.grown g8, brow_of (by rw [hcl]; exact o5)⟩, grownBy_trans G7 g8 (.inl rfl)⟩
  clear R0 R1 R2 R3 R4 o5 g8 G7 hcm
  obtain ⟨i0, hi, hz0, hz1, hz2⟩ := info_parts info3
  go_upto_block 0 with (at_make; refine wpList_make_full _ rfl _ _ 33 rfl w8.heap.size 3 i0 (.int .i64 0) 1 Try.underlying33 hi hz0 hz1 _ _ _ _ ev.length rfl rfl rfl rfl ?b1 ?b2 ?b3 ?_)
  case b1 => rw [hz2]; omega
  case b2 => unfold maxLen; omega
  case b3 => exact Nat.le_refl _
  intro w9 o9 g9
  go_upto_block 0 with fail
  go_cut [] from 96 (fun wx => Hid (wx.ownsRow w8.heap.size 3 1 (.slice (some ⟨w8.heap.size, 0, none⟩) ev.length ev.length) ev.length ((List.range ev.length).map fun (u : Nat) => Value.int .i64 (u : Int)) ∧ w8.grownBy wx none))
  case first =>
    have HO9 : Hid (_ ∧ w8.grownBy w9 none) := And.intro o9 g9
    clear o9 g9
    go_wp2_with fail
    go_loopg [13] ev.length (fun g si wr => ∃ k : Nat, k ≤ ev.length ∧ g = ev.length - k ∧ si = .int .i64 k ∧ Hid (wr.ownsRow w8.heap.size 3 1 (.slice (some ⟨w8.heap.size, 0, none⟩) ev.length ev.length) ev.length (mixV (.int .i64 0) ((List.range ev.length).map fun (u : Nat) => Value.int .i64 (u : Int)) k) ∧ w8.grownBy wr none))
    case atStart => exact ⟨0, Nat.zero_le _, rfl, rfl, by rw [mixV_zero]; simpa [toList_madeCells_one, Value.cells] using HO9.out.1, HO9.out.2⟩
    case round =>
      obtain ⟨k, hk, hgk, rfl, hI⟩ := hrel
      clear HO9
      by_cases hlt : k < ev.length
      · have hkm : k < ((List.range ev.length).map fun (u : Nat) => Value.int .i64 (u : Int)).length := by simpa using hlt
        have hdst : wr.cell? ⟨w8.heap.size, k, none⟩ = (mixV (.int .i64 0) ((List.range ev.length).map fun (u : Nat) => Value.int .i64 (u : Int)) k)[k]? := hI.out.1.cellAt k (by omega)
        rw [mixV_at _ _ _ hkm] at hdst
        have hfz := hI.out.1.frozenAt k
        have R := hI.out.1.stored k (Value.int .i64 (k : Int))
        have e : Value.int .i64 (k : Int) = ((List.range ev.length).map fun (u : Nat) => Value.int .i64 (u : Int))[k] := by simp
        rw [e, mixV_step _ _ _ hkm, ← e] at R
        have HR : Hid (_ ∧ _) := R
        have hzz : w8.heap.size < wr.heap.size := (hI.out.1.lt _ rfl).2
        have hki : (0 : Int) ≤ (k : Int) := by omega
        have hkp : (k : Int) < (ev.length : Int) := by omega
        clear R e hkm
        go_wp2
        go_roundg (ev.length - (k + 1))
        case measure => omega
        case rel => exact ⟨k + 1, by omega, rfl, by go_num, HR.out.1, grownBy_trans hI.out.2 HR.out.2 (.inr fun j h => by cases h; exact Nat.le_refl _)⟩
      · go_wp2
        go_meet
        have : k = ((List.range ev.length).map fun (u : Nat) => Value.int .i64 (u : Int)).length := by simp; omega
        subst this
        obtain ⟨q1, q2⟩ := hI.out
        rw [mixV_end] at q1
        exact ⟨q1, q2⟩
  case rest =>
    obtain ⟨W, hW⟩ : ∃ W, W = wc := ⟨_, rfl⟩
    subst hW
    have HRW : Hid (Rs W b0 b1 b2 b3 b4 (some ⟨gc, 0, none⟩) ts ev ac ss pm cm ∧ w.grownBy W none ∧ NRow W (some ⟨w8.heap.size, 0, none⟩) (List.range ev.length)) := ⟨HRS.out.1.grown hcut.out.2, grownBy_trans HRS.out.2 hcut.out.2 (.inl rfl), nrow_of (by rw [List.length_range]; exact hcut.out.1)⟩
    clear hcut HRS o9 g9
    generalize w8.heap.size = g8 at HRW ⊢
    obtain ⟨E, hE⟩ : ∃ E : Ev, E = ⟨ts.length, ev, ac, ss, cm⟩ := ⟨_, rfl⟩
    have HEE : Hid (E = ⟨ts.length, ev, ac, ss, cm⟩) := hE
    clear hE
    go_upto_block 2 with (at_make; refine wpList_make_own _ rfl _ _ 33 rfl W.heap.size 3 i0 (.int .i64 0) 1 Try.underlying33 hi hz0 hz1 _ _ _ ev.length rfl rfl rfl ?b1 ?b2 ?b3 ?_)
    case b1 => rw [hz2]; omega
    case b2 => unfold maxLen; omega
    case b3 => exact Nat.le_refl _
    intro w10 o10 g10
    go_upto_block 2 with fail
    have HO10 : Hid (_ ∧ W.grownBy w10 none) := And.intro o10 g10
    clear o10 g10
    go_cut [14] from 109 (fun sv wx => ∃ a c, sv = .slice a (E.ser pm).length c ∧ Hid (wx.ownsRow W.heap.size 3 1 sv (E.ser pm).length ((E.ser pm).map fun (u : Nat) => Value.int .i64 (u : Int)) ∧ W.grownBy wx none))
    case first =>
      go_wp2_with fail
      go_loopg [14, 15] pm.length (fun g sv si wr => ∃ (k : Nat) (a : Option Addr) (c : Nat), k ≤ pm.length ∧ g = pm.length - k ∧ si = .int .i64 k ∧ sv = .slice a (E.ser (pm.take k)).length c ∧ Hid (wr.ownsRow W.heap.size 3 1 sv (E.ser (pm.take k)).length ((E.ser (pm.take k)).map fun (u : Nat) => Value.int .i64 (u : Int)) ∧ W.grownBy wr none))
      case atStart => exact ⟨0, _, _, Nat.zero_le _, rfl, rfl, rfl, HO10.out⟩
      case round =>
        obtain ⟨k, a, c, hk, hgk, rfl, rfl, hI⟩ := hrel
        clear HO10
        by_cases hlt : k < pm.length
        · have h4 := HRW.out.1.h4.grown hI.out.2
          rcases h4 with h0 | ⟨bp, op, rfl, hcp⟩
          · omega
          have hcell := hcp k hlt
          have HX : Hid (pm[k] = pm.getD k 0) := by
            show _ = _
            simp [List.getD, hlt]
          have hx256 := hu4 _ (List.getElem_mem hlt)
          generalize pm[k] = x at hcell HX hx256
          have hki : (0 : Int) ≤ (k : Int) := by omega
          have hkp : (k : Int) < (pm.length : Int) := by omega
          have HI2 : Hid (wr.ownsRow W.heap.size 3 1 (.slice a (E.sq pm k 0).length c) (E.sq pm k 0).length ((E.sq pm k 0).map fun (u : Nat) => Value.int .i64 (u : Int)) ∧ W.grownBy wr none) := by
            rw [E.sq_zero]
            exact hI.out
          have HL2 : Hid ((E.ser (pm.take k)).length = (E.sq pm k 0).length) := by rw [E.sq_zero]; exact rfl
          clear hcp hI
          go_upto_block 4 with fail
          rw [HL2.out]
          clear HL2
          go_wp2_with fail
          go_loopg [14, 17] ev.length (fun g sv si wi => ∃ (i : Nat) (a : Option Addr) (c : Nat), i ≤ ev.length ∧ g = ev.length - i ∧ si = .int .i64 i ∧ sv = .slice a (E.sq pm k i).length c ∧ Hid (wi.ownsRow W.heap.size 3 1 sv (E.sq pm k i).length ((E.sq pm k i).map fun (u : Nat) => Value.int .i64 (u : Int)) ∧ W.grownBy wi none))
          case atStart => exact ⟨0, _, _, Nat.zero_le _, rfl, rfl, rfl, HI2.out⟩
          case round =>
            obtain ⟨i, a2, c2, hi1, hgi, rfl, rfl, hJ⟩ := hrel
            clear HI2
            by_cases hil : i < ev.length
            · have h1 := HRW.out.1.h1.grown hJ.out.2
              rcases h1 with h0 | ⟨be, oe, rfl, hce⟩
              · omega
              have hcell2 := hce i hil
              have hev256 := hu1 _ (List.getElem_mem hil)
              have HXI : Hid (E.x i = ev[i] % ts.length) := by
                show _ = _
                rw [HEE.out]
                simp [Ev.x, List.getD, hil]
              generalize ev[i] = u at hcell2 HXI hev256
              have hn0 : 0 < ts.length := HE.out.2.1 (by omega)
              have hxn : u % ts.length < ts.length := Nat.mod_lt _ hn0
              go_wp2_with fail
              refine (txn_any b0 ts.length d0 be oe ev.length d1 i u wr hcell2 hev256 hil (by omega) hn0 (by omega)).mono ?_
              rintro e w11 ⟨rfl, hw11⟩
              obtain rfl := hw11.symm
              clear hw11
              by_cases hxe : u % ts.length = x
              · have HXE : Hid (E.x i = pm.getD k 0) := by
                  show _ = _
                  rw [HXI.out, hxe, HX.out]
                clear hxn
                rw [hxe]
                clear hxe
                have HL : Hid ((E.sq pm k i).length ≤ 8192) := by
                  have h := E.sq_len HP.out.2.1 k i
                  have e : E.m = ev.length := by rw [HEE.out]; rfl
                  show _ ≤ _
                  omega
                have hL := HL.out
                have hbs : W.heap.size ≤ wr.heap.size := hJ.out.2.size
                have HO : Hid (∀ wx, wr.grownBy wx none → wx.ownsRow W.heap.size 3 1 (.slice a2 (E.sq pm k i).length c2) (E.sq pm k i).length ((E.sq pm k i).map fun (u : Nat) => Value.int .i64 (u : Int))) := fun wx g => owns_grown hJ.out.1 g
                go_wp2_with (at_builtin; refine wpList_append_src _ rfl (.tmp 132) (.tmp 134) 33 33 rfl W.heap.size 3 i0 (.int .i64 0) 1 8 Try.underlying33 hi hz0 hz1 hz2 rfl _ (E.sq pm k i).length ((E.sq pm k i).map fun (u : Nat) => Value.int .i64 (u : Int)) rfl (HO.out _ (by repeat (first | with_reducible exact World.grownBy.refl _ _ | with_reducible refine grown_alloc ?_ _ | with_reducible refine grown_drew ?_))) _ 1 [.int .i64 (i : Int)] rfl (Src.ofSlice _ Try.underlying33 _ 1 1 _ rfl ?q2 ?q22) ?q3 ?q4 ?q5 ?_)
                case q2 =>
                  intro j u hj
                  match j, hj with
                  | 0, hj => (simp at hj; subst hj; simp [Addr.add, go_sem])
                case q22 =>
                  intro u hu
                  simp at hu
                  subst hu
                  rfl
                case q3 => unfold maxLen; omega
                case q4 => omega
                case q5 => simp; omega
                intro v' w12 own12 g12 _
                obtain ⟨a', c', rfl⟩ := row_form own12
                have HN : Hid (w12.ownsRow W.heap.size 3 1 (.slice a' (E.sq pm k (i + 1)).length c') (E.sq pm k (i + 1)).length ((E.sq pm k (i + 1)).map fun (u : Nat) => Value.int .i64 (u : Int)) ∧ W.grownBy w12 none) := by
                  rw [E.sq_hit HXE.out, List.length_append, List.map_append]
                  refine ⟨own12, grownBy_trans hJ.out.2 (grownBy_trans (World.grownBy_alloc _ _ _) g12 (.inl rfl)) (.inr fun j e => (hJ.out.1.lt _ e).1)⟩
                have HL3 : Hid ((E.sq pm k i).length + 1 = (E.sq pm k (i + 1)).length) := by rw [E.sq_hit HXE.out, List.length_append]; exact rfl
                clear own12 g12
                go_wp2
                go_roundg (ev.length - (i + 1))
                case measure => omega
                case rel =>
                  refine ⟨i + 1, a', c', by omega, rfl, by go_num, by rw [HL3.out], ?_⟩
                  rw [HL3.out]
                  exact HN
              · have hxi : (((u % ts.length : Nat) : Int) == (x : Int)) = false := by simp; omega
                have HXE : Hid (E.x i ≠ pm.getD k 0) := by
                  show _ ≠ _
                  rw [HXI.out, ← HX.out]
                  exact hxe
                clear hxe
                generalize u % ts.length = y at hxi hxn
                go_wp2
                go_roundg (ev.length - (i + 1))
                case measure => omega
                case rel =>
                  refine ⟨i + 1, a2, c2, by omega, rfl, by go_num, by rw [E.sq_miss HXE.out], ?_⟩
                  rw [E.sq_miss HXE.out]
                  exact hJ
            · go_wp2
              go_roundg (pm.length - (k + 1))
              case measure => omega
              case rel =>
                have hie : i = E.m := by rw [HEE.out]; show i = ev.length; omega
                subst hie
                have e := E.sq_end hlt
                refine ⟨k + 1, a2, c2, by omega, rfl, by go_num, by rw [e], ?_⟩
                rw [← e]
                exact hJ
        · go_wp2
          go_meet
          have hke : k = pm.length := by omega
          subst hke
          rw [List.take_length] at hI
          refine ⟨a, c, by rw [List.take_length], ?_⟩
          rw [List.take_length]
          exact hI
    case rest =>
      obtain ⟨aq, cq, rfl, hS⟩ := hcut
      have HRC : Hid (Rs wc b0 b1 b2 b3 b4 (some ⟨gc, 0, none⟩) ts ev ac ss pm cm ∧ w.grownBy wc none ∧ NRow wc (some ⟨g8, 0, none⟩) (List.range ev.length) ∧ NRow wc aq (E.ser pm)) := ⟨HRW.out.1.grown hS.out.2, grownBy_trans HRW.out.2.1 hS.out.2 (.inl rfl), HRW.out.2.2.grown hS.out.2, nrow_of hS.out.1⟩
      have hem : E.m = ev.length := by rw [HEE.out]; rfl
      have hsl := E.ser_len HP.out.2.1
      clear hS HRW HO10 hi hz0 hz1 hz2
      have HCL : Hid (cm.length = ts.length) := hcl
      clear hcl
      have HQ1 := replay_any (some ⟨g8, 0, none⟩) b0 b1 b2 b3 (some ⟨gc, 0, none⟩) ev.length ts.length d0 d1 d2 d3 ts.length (List.range ev.length) ev ac ss cm wc (by simp; omega) l1 (by omega) HE.out.1.1.symm HE.out.1.2.symm HCL.out HE.out.2.1 (fun i hi => List.mem_range.1 hi) HRC.out.2.2.1 HRC.out.1.h1 HRC.out.1.h2 HRC.out.1.h3 HRC.out.1.h5 hu1 hu2 hs
      rw [List.length_range, HCL.out] at HQ1
      go_wp2_with fail
      refine HQ1.mono ?_
      rintro e w13 ⟨M1, rfl, hM1, oH, mH, gH⟩
      clear HQ1
      have HQ2 := replay_any aq b0 b1 b2 b3 (some ⟨gc, 0, none⟩) cq ts.length d0 d1 d2 d3 ts.length (E.ser pm) ev ac ss cm w13 (by omega) l1 (by omega) HE.out.1.1.symm HE.out.1.2.symm HCL.out HE.out.2.1 (fun i hi => by rw [← hem]; exact E.ser_lt i hi) (HRC.out.2.2.2.grown gH) (HRC.out.1.h1.grown gH) (HRC.out.1.h2.grown gH) (HRC.out.1.h3.grown gH) (HRC.out.1.h5.grown gH) hu1 hu2 hs
      rw [HCL.out] at HQ2
      go_wp2_with fail
      refine HQ2.mono ?_
      rintro e w14 ⟨M2, rfl, hM2, oS, mS, gS⟩
      clear HQ2
      obtain ⟨A, hA⟩ : ∃ A, A = E.H E.m := ⟨_, rfl⟩
      obtain ⟨B, hB⟩ : ∃ B, B = E.run E.init (E.ser pm) := ⟨_, rfl⟩
      have eA : rRun ts.length ev ac ss cm (List.range ev.length) = A := by rw [hA, HEE.out]; rfl
      have eB : rRun ts.length ev ac ss cm (E.ser pm) = B := by rw [hB, HEE.out]; rfl
      rw [eA] at oH mH
      rw [eB] at oS mS
      have HAB : Hid (A = E.H E.m ∧ B = E.run E.init (E.ser pm)) := ⟨hA, hB⟩
      have HW : Hid (Rs w14 b0 b1 b2 b3 b4 (some ⟨gc, 0, none⟩) ts ev ac ss pm cm ∧ w.grownBy w14 none ∧ w14.ownsRow wc.heap.size 58 2 (.slice (some ⟨wc.heap.size, 0, none⟩) ev.length ev.length) ev.length (Pl A.src) ∧ w14.ownsRow w13.heap.size 58 2 (.slice (some ⟨w13.heap.size, 0, none⟩) ev.length ev.length) ev.length (Pl B.src) ∧ OwnsM w14 9 M1 ev.length (lastF A.last) ∧ OwnsM w14 9 M2 (E.ser pm).length (lastF B.last) ∧ A.src.length = ev.length ∧ B.src.length = ev.length) := by
        have gg := grownBy_trans gH gS (.inl rfl)
        refine ⟨HRC.out.1.grown gg, grownBy_trans HRC.out.2.1 gg (.inl rfl), owns_grown oH gS, oS, mH.kept gS (by simp), mS, ?_, ?_⟩
        · rw [hA, Ev.H, Ev.run_len, Ev.init, HEE.out]
          simp [rInit]
        · rw [hB, Ev.run_len, Ev.init, HEE.out]
          simp [rInit]
      clear oH mH oS mS gH gS HRC hA hB eA eB hM1 hM2 hsl hem
      generalize wc.heap.size = gh at *
      generalize w13.heap.size = gs at *
      go_upto_block 6 with fail
      go_cut [22] from 156 (fun sv wx => sv = .bool (E.eqTo A B ev.length) ∧ w14.grownBy wx none)
      case first =>
        go_wp2_with fail
        go_loopg [22, 23] ev.length (fun g sv si wr => ∃ k : Nat, k ≤ ev.length ∧ g = ev.length - k ∧ si = .int .i64 k ∧ sv = .bool (E.eqTo A B k) ∧ Hid (w14.grownBy wr none))
        case atStart => exact ⟨0, Nat.zero_le _, rfl, rfl, rfl, World.grownBy.refl _ _⟩
        case round =>
          obtain ⟨k, hk, hgk, rfl, rfl, hg⟩ := hrel
          by_cases hil : k < ev.length
          · have hrs := HW.out.1.grown hg.out
            obtain ⟨h0, h1, h2, h3, h4, h5⟩ := hrs
            have hal : k < ac.length := by have := HE.out.1.1; omega
            have hsl : k < ss.length := by have := HE.out.1.2; omega
            have hn0 : 0 < ts.length := HE.out.2.1 (by omega)
            rcases h1 with h | ⟨be, oe, rfl, hc1⟩
            · omega
            rcases h2 with h | ⟨ba, oa, rfl, hc2⟩
            · omega
            rcases h3 with h | ⟨bs, os, rfl, hc3⟩
            · omega
            have hcl := HCL.out
            rcases h5 with h | ⟨b5, o5, hb5, hc5⟩
            · omega
            obtain ⟨rfl, rfl⟩ : b5 = gc ∧ o5 = 0 := by cases hb5; exact ⟨rfl, rfl⟩
            have ce := hc1 k hil
            have ca := hc2 k hal
            have cst := hc3 k hsl
            have hb1 := hu1 _ (List.getElem_mem hil)
            have hsz := hs _ (List.getElem_mem hsl)
            have HST : Hid (E.eqTo A B (k + 1) = (E.eqTo A B k && ((!(cm.getD (ev[k] % ts.length) false && (ac[k] % 4 == 0)) || decide (A.src.getD k (0, 0) = B.src.getD k (0, 0))) && (!(cm.getD (ev[k] % ts.length) false && (ac[k] % 4 == 1)) || decide ((lw (A.last ss[k])).1 = (lw (B.last ss[k])).1))))) := by
              show _ = _
              rw [Ev.eqTo, Ev.eqAt, Ev.isR, Ev.isW, Ev.x, Ev.s, HEE.out]
              simp only [List.getD_eq_getElem?_getD, List.getElem?_eq_getElem hil, List.getElem?_eq_getElem hal, List.getElem?_eq_getElem hsl, Option.getD_some]
            have hx : ev[k] % ts.length < ts.length := Nat.mod_lt _ hn0
            have HTX := txn_any b0 ts.length d0 be oe ev.length d1 k ev[k] wr ce hb1 hil (by omega) hn0 (by omega)
            generalize ev[k] = u at *
            generalize u % ts.length = x at *
            generalize ac[k] = tt at *
            generalize ss[k] = s at *
            have cb := hc5 x (by omega)
            have hcg : cm.getD x false = cm[x]'(by omega) := by simp [show x < cm.length by omega]
            rw [hcg] at HST
            clear hcg
            generalize cm[x]'(by omega) = cx at cb HST
            rw [Nat.zero_add] at cb
            have hr : ((tt : Int)).tmod 4 = ((tt % 4 : Nat) : Int) := by rw [Int.tmod_eq_emod_of_nonneg (by omega)]; omega
            have hr4 : tt % 4 < 4 := Nat.mod_lt _ (by omega)
            generalize tt % 4 = r at *
            have hki : (0 : Int) ≤ (k : Int) := by omega
            have hkp : (k : Int) < (ev.length : Int) := by omega
            have hka : (k : Int) < (ac.length : Int) := by omega
            have hks : (k : Int) < (ss.length : Int) := by omega
            have hx0 : (0 : Int) ≤ (x : Int) := by omega
            have hx1 : (x : Int) < (ts.length : Int) := by omega
            clear hc1 hc2 hc3 hc5 h0 h4 hcl hal hsl hb5 hb1
            go_wp2_with fail
            refine HTX.mono ?_
            rintro e w15 ⟨rfl, hw15⟩
            obtain rfl := hw15.symm
            clear hw15 HTX
            cases cx with
            | false =>
              go_wp2
              go_roundg (ev.length - (k + 1))
              case measure => omega
              case rel =>
                refine ⟨k + 1, by omega, rfl, by go_num, ?_, hg⟩
                rw [HST.out]
                simp
            | true =>
              have hr3 : r = 0 ∨ r = 1 ∨ 2 ≤ r := by omega
              rcases hr3 with rfl | rfl | hr2
              · have oA := (owns_grown HW.out.2.2.1 hg.out).cellAt (k * 2) (by omega)
                have oA2 := (owns_grown HW.out.2.2.1 hg.out).cellAt (k * 2 + 1) (by omega)
                have oB := (owns_grown HW.out.2.2.2.1 hg.out).cellAt (k * 2) (by omega)
                have oB2 := (owns_grown HW.out.2.2.2.1 hg.out).cellAt (k * 2 + 1) (by omega)
                have pA := Pl_at A.src k (by rw [HW.out.2.2.2.2.2.2.1]; exact hil)
                have pB := Pl_at B.src k (by rw [HW.out.2.2.2.2.2.2.2]; exact hil)
                rw [pA.1] at oA
                rw [pA.2] at oA2
                rw [pB.1] at oB
                rw [pB.2] at oB2
                clear pA pB
                generalize A.src.getD k (0, 0) = pa at oA oA2 HST
                generalize B.src.getD k (0, 0) = pb at oB oB2 HST
                obtain ⟨p1, p2⟩ := pa
                obtain ⟨q1, q2⟩ := pb
                simp only at oA oA2 oB oB2
                have HS2 : Hid (E.eqTo A B (k + 1) = (E.eqTo A B k && decide (p1 = q1 ∧ p2 = q2))) := by
                  show _ = _
                  rw [HST.out]
                  simp
                clear HST
                go_upto_region 41 with fail
                go_cut [188] from 156 to 207 (fun sb wx => sb = .bool (!decide (p1 = q1 ∧ p2 = q2)) ∧ wr.grownBy wx none)
                case first =>
                  by_cases e1 : p1 = q1
                  · subst e1
                    by_cases e2 : p2 = q2
                    · subst e2
                      go_quiet (fail)
                      go_wp2
                      go_meet
                      case rel => exact ⟨by simp, grownBy_drewN _ _ _⟩
                    · have e2' : (p2 == q2) = false := by simpa using e2
                      go_quiet (fail)
                      go_wp2
                      go_meet
                      case rel => exact ⟨by simp [e2], grownBy_drewN _ _ _⟩
                  · have e1' : (p1 == q1) = false := by simpa using e1
                    go_quiet (fail)
                    go_wp2
                    go_meet
                    case rel => exact ⟨by simp [e1], grownBy_drewN _ _ _⟩
                case rest =>
                  obtain ⟨rfl, gx⟩ := hcut
                  have HGX : Hid (w14.grownBy wc none) := grownBy_trans hg.out gx (.inl rfl)
                  clear oA oA2 oB oB2 ce ca cst cb gx
                  generalize hq : decide (p1 = q1 ∧ p2 = q2) = q at HS2
                  clear hq
                  cases q with
                  | true =>
                    go_upto_region 43 with fail
                    go_quiet (fail)
                    go_wp2
                    go_roundg (ev.length - (k + 1))
                    case measure => omega
                    case rel =>
                      refine ⟨k + 1, by omega, rfl, by go_num, ?_, grownBy_trans HGX.out (grownBy_drewN _ _ _) (.inl rfl)⟩
                      rw [HS2.out, Bool.and_true]
                  | false =>
                    go_upto_region 43 with fail
                    go_quiet (fail)
                    go_wp2
                    go_roundg (ev.length - (k + 1))
                    case measure => omega
                    case rel =>
                      refine ⟨k + 1, by omega, rfl, by go_num, ?_, grownBy_trans HGX.out (grownBy_drewN _ _ _) (.inl rfl)⟩
                      rw [HS2.out, Bool.and_false]
              · have l54a : ∀ m, (Instr.lookup 54 (.map (some M1)) (.string s) false).run Try.prog (wr.drewN m) = .ok (.agg #[.int .i64 (lw (A.last s)).1, .int .i64 (lw (A.last s)).2]) (wr.drewN m) := by
                  intro m
                  have := ((HW.out.2.2.2.2.1.kept hg.out (by simp)).block rfl : OwnsM (wr.drewN m) 9 M1 ev.length (lastF A.last)).look keyed9 Try.underlying54 (zero58 _) (key9 hsz)
                  rw [Ev.lw_agg] at this
                  exact this
                have l54b : ∀ m, (Instr.lookup 54 (.map (some M2)) (.string s) false).run Try.prog (wr.drewN m) = .ok (.agg #[.int .i64 (lw (B.last s)).1, .int .i64 (lw (B.last s)).2]) (wr.drewN m) := by
                  intro m
                  have := ((HW.out.2.2.2.2.2.1.kept hg.out (by simp)).block rfl : OwnsM (wr.drewN m) 9 M2 (E.ser pm).length (lastF B.last)).look keyed9 Try.underlying54 (zero58 _) (key9 hsz)
                  rw [Ev.lw_agg] at this
                  exact this
                have HS2 : Hid (E.eqTo A B (k + 1) = (E.eqTo A B k && decide ((lw (A.last s)).1 = (lw (B.last s)).1))) := by
                  show _ = _
                  rw [HST.out]
                  simp
                clear HST
                generalize lw (A.last s) = pa at l54a HS2
                generalize lw (B.last s) = pb at l54b HS2
                obtain ⟨p1, p2⟩ := pa
                obtain ⟨q1, q2⟩ := pb
                simp only at l54a l54b HS2
                have hfa := field58 p1 p2
                have hfb := field58 q1 q2
                go_upto_region 41 with fail
                go_quiet (fail)
                go_upto_region 43 with fail
                go_cut [207] from 156 to 207 (fun sb wx => sb = .bool (!decide (p1 = q1)) ∧ wr.grownBy wx none)
                case first =>
                  by_cases e1 : p1 = q1
                  · subst e1
                    go_quiet (fail)
                    go_wp2
                    go_meet
                    case rel => exact ⟨by simp, grownBy_drewN _ _ _⟩
                  · have e1' : (p1 != q1) = true := by simpa using e1
                    go_quiet (fail)
                    go_wp2
                    go_meet
                    case rel => exact ⟨by simp [e1], grownBy_trans (grownBy_drewN _ _ _) (grownBy_drewN _ _ _) (.inl rfl)⟩
                case rest =>
                  obtain ⟨rfl, gx⟩ := hcut
                  have HGX : Hid (w14.grownBy wc none) := grownBy_trans hg.out gx (.inl rfl)
                  clear ce ca cst cb gx l54a l54b hfa hfb
                  generalize hq : decide (p1 = q1) = q at HS2
                  clear hq
                  cases q with
                  | true =>
                    go_wp2
                    go_roundg (ev.length - (k + 1))
                    case measure => omega
                    case rel =>
                      refine ⟨k + 1, by omega, rfl, by go_num, ?_, HGX⟩
                      rw [HS2.out, Bool.and_true]
                  | false =>
                    go_wp2
                    go_roundg (ev.length - (k + 1))
                    case measure => omega
                    case rel =>
                      refine ⟨k + 1, by omega, rfl, by go_num, ?_, HGX⟩
                      rw [HS2.out, Bool.and_false]
              · have e0 : ((r : Int) == 0) = false := by simp; omega
                have e1 : ((r : Int) == 1) = false := by simp; omega
                have HS2 : Hid (E.eqTo A B (k + 1) = E.eqTo A B k) := by
                  show _ = _
                  rw [HST.out]
                  have f0 : (r == 0) = false := by simp; omega
                  have f1 : (r == 1) = false := by simp; omega
                  simp [f0, f1]
                clear HST hr2
                go_upto_region 41 with fail
                go_quiet (fail)
                go_upto_region 43 with fail
                go_quiet (fail)
                go_wp2
                go_roundg (ev.length - (k + 1))
                case measure => omega
                case rel =>
                  refine ⟨k + 1, by omega, rfl, by go_num, by rw [HS2.out], ?_⟩
                  exact grownBy_trans hg.out (grownBy_drewN _ _ _) (.inl rfl)
          · go_wp2
            go_meet
            have hke : k = ev.length := by omega
            subst hke
            exact ⟨rfl, hg.out⟩
      case rest =>
        obtain ⟨rfl, gx⟩ := hcut
        have HWC : Hid (Rs wc b0 b1 b2 b3 b4 (some ⟨gc, 0, none⟩) ts ev ac ss pm cm ∧ w.grownBy wc none) := ⟨HW.out.1.grown gx, grownBy_trans HW.out.2.1 gx (.inl rfl)⟩
        have HET : Hid (E = theE ts ev ac ss) := by
          show _ = _
          rw [HEE.out, HCM.out]
          rfl
        have HQ : Hid (E.eqTo A B ev.length = true ↔ Ev.Eqv (theE ts ev ac ss) pm) := by
          show _ ↔ _
          rw [HAB.out.1, HAB.out.2, HET.out]
          exact Ev.eqv_iff _ pm
        clear gx HW HAB HET HEE HCM HCL
        generalize E.eqTo A B ev.length = q at HQ ⊢
        go_wp2_with fail
        refine (build_any b0 b1 b2 b3 d0 d1 d2 d3 ts ev ac ss wc l1 (by omega) HE.out.1.1.symm HE.out.1.2.symm HE.out.2.1 HWC.out.1.h0 HWC.out.1.h1 HWC.out.1.h2 HWC.out.1.h3 hu1 hu2 hz).mono ?_
        rintro e w16 ⟨Hh, base, Bm, vt, ah, ch, rfl, hHs⟩
        go_wp2_with fail
        refine (txns_any b0 d0 ts w16 (by omega) (HWC.out.1.h0.grown hHs.out.2.2.2)).mono ?_
        rintro e w17 ⟨rfl, oT, gT⟩
        go_wp2_with fail
        refine (zzvr_any Hh base Bm vt ah ch w16.heap.size ts.length ts (evTo ts ev ac ss ev.length) (cmTo ts ev ac ss ev.length) w17 (by rw [evTo_length]; exact hHs.out.1.grown gT) (irow_of oT) l0 (by rw [evTo_length]; exact l1) HE.out.2.2 hz (fun i => ev.getD i 0 % ts.length) (ev_ok ts ev ac ss HE.out.2.1 HE.out.1.2 hs)).mono ?_
        rintro e w18 ⟨gV, hO⟩
        have HG : Hid (Rs w18 b0 b1 b2 b3 b4 (some ⟨gc, 0, none⟩) ts ev ac ss pm cm ∧ w.grownBy w18 none) := by
          have gg := grownBy_trans (grownBy_trans hHs.out.2.2.2 gT (.inl rfl)) gV (.inl rfl)
          exact ⟨HWC.out.1.grown gg, grownBy_trans HWC.out.2 gg (.inl rfl)⟩
        clear gV gT oT hHs HWC
        rcases hO with ⟨ho, rfl⟩ | ⟨S, bf, left, R, gb, gt, bb, vs, v1, v2, v3, v4, v5, rfl, v6⟩
        · have hq : q = false := by
            have h := fin_refuse HE.out.2.2 HE.out.2.1 HP.out.1 HP.out.2.1 HP.out.2.2 ho
            cases q with
            | false => rfl
            | true => exact absurd (HQ.out.1 rfl) h
          subst hq
          clear ho
          go_wp2
          go_ret
          exact retB true ⟨rfl, HG.out.2⟩
        · have HL := fin_law HE.out.2.2 l0 HE.out.2.1 HE.out.1.2 hs HP.out.1 HP.out.2.1 HP.out.2.2 v1 v2 v3 v4 v5
          rw [← HQ.out] at HL
          obtain ⟨M, hM⟩ : ∃ M : Nat → Bool, ∀ k, M k = mayP ((rdAll S ts.length bf (List.replicate ts.length []) S.rd).1.getD (pm.getD k 0) 0) ((rdAll S ts.length bf (List.replicate ts.length []) S.rd).2.getD (pm.getD k 0) []) (plc pm k) := ⟨_, fun _ => rfl⟩
          have HML : Hid ((∀ k, k < pm.length → M k = true) ↔ q = true) := by
            show _ ↔ _
            simp only [hM]
            exact HL
          have HM : Hid (∀ k, M k = mayP ((rdAll S ts.length bf (List.replicate ts.length []) S.rd).1.getD (pm.getD k 0) 0) ((rdAll S ts.length bf (List.replicate ts.length []) S.rd).2.getD (pm.getD k 0) []) (plc pm k)) := hM
          have HV : Hid (Good S ts.length bf left ∧ Vok S ts.length (evTo ts ev ac ss ev.length).length ∧ Rw w18 R gb gt bb ts.length (rdAll S ts.length bf (List.replicate ts.length []) S.rd).1 vs (rdAll S ts.length bf (List.replicate ts.length []) S.rd).2) := ⟨v3, v5, v6⟩
          clear hM HL v1 v2 v3 v4 v5 v6 HQ
          go_upto_block 8 with fail
          go_cut [28] from 223 (fun sv wx => ∃ p : Bool, sv = .bool p ∧ Hid (p = q ∧ w18.grownBy wx none))
          case first =>
            go_wp2_with fail
            go_loopg [28, 29, 30] pm.length (fun g sv sp si wr => ∃ k : Nat, k ≤ pm.length ∧ g = pm.length - k ∧ si = .int .i64 k ∧ sp = .int .u64 (plc pm k : Int) ∧ sv = .bool true ∧ Hid ((∀ j, j < k → M j = true) ∧ w18.grownBy wr none))
            case atStart => exact ⟨0, Nat.zero_le _, rfl, rfl, rfl, rfl, fun j hj => by omega, World.grownBy.refl _ _⟩
            case round =>
              obtain ⟨k, hk, hgk, rfl, rfl, rfl, hI⟩ := hrel
              by_cases hlt : k < pm.length
              · have h4 := HG.out.1.h4.grown hI.out.2
                rcases h4 with h | ⟨bp, op, rfl, hcp⟩
                · omega
                have hcell := hcp k hlt
                have HX : Hid (pm[k] = pm.getD k 0) := by
                  show _ = _
                  simp [List.getD, hlt]
                have hxn := HP.out.2.2 _ (List.getElem_mem hlt)
                have hpl := plc_lt (pm := pm) k (fun j hj => by
                  have hj2 : j < pm.length := by omega
                  have e : pm.getD j 0 = pm[j] := by simp [List.getD, hj2]
                  rw [e]
                  have := HP.out.2.2 _ (List.getElem_mem hj2)
                  omega)
                generalize pm[k] = x at hcell HX hxn
                have hRw := HV.out.2.2.grown hI.out.2
                obtain ⟨am, cc, m0, m1, hq⟩ := hRw.may hxn
                have hbt := bt_len S bf hxn l0 HV.out.2.1
                rw [evTo_length] at hbt
                have hsm := rdAll_sm S ts.length (List.replicate ts.length []) S.rd bf HV.out.1.2.1 (fun r hr => by have := HV.out.2.1.rd r hr; have := HV.out.1.1; omega) x
                have HMK : Hid (M k = mayP ((rdAll S ts.length bf (List.replicate ts.length []) S.rd).1.getD x 0) ((rdAll S ts.length bf (List.replicate ts.length []) S.rd).2.getD x []) (plc pm k)) := by
                  show _ = _
                  rw [HM.out, HX.out]
                have hor := or_pow hpl (show x < 64 by omega)
                rw [setB_eq] at hor
                have HPN : Hid (plc pm (k + 1) = plc pm k ||| 2 ^ x) := by
                  show _ = _
                  rw [HX.out]
                  rfl
                have HC := zzmay_any R gb gt ts.length ts.length ts.length x (plc pm k) _ cc am _ wr hxn (by omega) hRw.r0 hRw.r1 m0 m1 hq hsm hpl hbt.2
                clear hRw m0 m1 hq hbt hsm hcp
                generalize (rdAll S ts.length bf (List.replicate ts.length []) S.rd).1.getD x 0 = bx at HMK HC
                generalize (rdAll S ts.length bf (List.replicate ts.length []) S.rd).2.getD x [] = px at HMK HC
                generalize plc pm k = pl at HMK HC HPN hor hpl ⊢
                generalize pl ||| 2 ^ x = pl2 at HPN hor
                generalize mayP bx px pl = mm at HMK HC
                have hki : (0 : Int) ≤ (k : Int) := by omega
                have hkp : (k : Int) < (pm.length : Int) := by omega
                have hx0 : (0 : Int) ≤ (x : Int) := by omega
                have hx64 : (x : Int) < 64 := by omega
                go_wp2_with fail
                refine HC.mono ?_
                rintro e w19 ⟨b, rfl, rfl, g19⟩
                have HG2 : Hid (w18.grownBy w19 none) := grownBy_trans hI.out.2 g19 (.inl rfl)
                clear g19 HC hcell
                cases b with
                | false =>
                  go_wp2
                  go_meet
                  case rel =>
                    refine ⟨false, rfl, ?_, HG2.out⟩
                    cases q with
                    | false => rfl
                    | true =>
                      have := HML.out.2 rfl k hlt
                      rw [HMK.out] at this
                      cases this
                | true =>
                  go_wp2
                  go_roundg (pm.length - (k + 1))
                  case measure => omega
                  case rel =>
                    refine ⟨k + 1, by omega, rfl, by go_num, by rw [HPN.out], rfl, fun j hj => ?_, HG2.out⟩
                    by_cases e : j = k
                    · subst e
                      exact HMK.out
                    · exact hI.out.1 j (by omega)
              · go_wp2
                go_meet
                case rel =>
                  have hke : k = pm.length := by omega
                  subst hke
                  refine ⟨true, rfl, ?_, hI.out.2⟩
                  exact (HML.out.1 hI.out.1).symm
          case rest =>
            obtain ⟨p, rfl, hp⟩ := hcut
            obtain ⟨rfl, gx⟩ := hp.out
            have HGX : Hid (w.grownBy wc none) := grownBy_trans HG.out.2 gx (.inl rfl)
            clear hp gx HG HML HM HV
            cases p with
            | true =>
              go_wp2
              go_ret
              exact retB true ⟨rfl, HGX.out⟩
            | false =>
              go_wp2
              go_ret
              exact retB true ⟨rfl, HGX.out⟩
end Go.Proofs.Qxb6600752a
