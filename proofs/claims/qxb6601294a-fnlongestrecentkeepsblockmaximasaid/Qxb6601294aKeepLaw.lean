import Derived.Test.Qxb6601294aMaxA
namespace Go.Proofs.Qxb6601294a
open Go.RowKit

set_option maxRecDepth 8000 in
set_option maxHeartbeats 12000000 in
theorem keep_walk (sz cap : Int) (v : Value) (xs : List (Int × Int)) (w : World) (a1 : Option Addr) (c1 : Nat) (e1 : v = .slice a1 xs.length c1) (r1 : Rp w v xs) (hb : xs.length ≤ maxLen) (hsz : sz ≤ 9223372036854775807) (hcap : cap ≤ 9223372036854775807) :
    Calls Try.prog 7 #[.int .i64 sz, .int .i64 cap, v] w fun e w' => e = .returned (.bool true) ∧ Below w.heap.size w w' := by
  unfold maxLen at hb
  subst e1
  go_enter Try.func7, Try.ntmps7
  go_wp2_with (first
    | (go_at_call 27; refine (bytes27_any _ _ _ _ _ _).mono ?_; rintro e w' ⟨b, rfl, hw⟩; obtain rfl := hw.symm; clear hw))
  all_goals try (go_ret; exact ⟨rfl, Below.refl _ _⟩)
  have hs1 : 1 ≤ sz := by omega
  have hc1 : 1 ≤ cap := by omega
  have hbl : xs.length ≤ 4096 := by omega
  obtain ⟨cap, rfl⟩ := Int.eq_ofNat_of_zero_le (show 0 ≤ cap by omega)
  obtain ⟨sz, rfl⟩ := Int.eq_ofNat_of_zero_le (show 0 ≤ sz by omega)
  have hcn : 0 < cap := by omega
  have hsn : 0 < sz := by omega
  refine (cloneP_any _ xs _ r1 (by omega)).mono ?_
  rintro e w1 ⟨vB, rfl, hB1, g1⟩
  obtain ⟨aB, cB, hvB, _, _, _, hxB⟩ := rp_of_owns hB1
  subst hvB
  clear hB1 r1
  go_wp2_with (first | (go_at_call 23; refine (zzi_any _ _ _).mono ?_; rintro e w' ⟨rfl, rfl⟩))
  obtain ⟨W0, hW0⟩ : ∃ W0, W0 = ((((w1.alloc (Obj.cells #[Value.int IntKind.i64 0, Value.int IntKind.u64 0] 40)).alloc (Obj.cells #[Value.int IntKind.i64 0, Value.int IntKind.u64 0] 40)).alloc (Obj.cells #[Value.int IntKind.i64 0, Value.int IntKind.u64 0] 40)).alloc (Obj.cells #[Value.int IntKind.i64 0, Value.int IntKind.u64 0] 40)) := ⟨_, rfl⟩
  rw [← hW0]
  have g0 : w1.grownBy W0 none := by rw [hW0]; exact grown_alloc (grown_alloc (grown_alloc (World.grownBy_alloc _ _ none) _) _) _
  have s0 : w1.heap.size + 4 ≤ W0.heap.size := by rw [hW0]; simp
  have k0 : W0.cell? ⟨w1.heap.size + 1, 0, none⟩ = some (.int .i64 0) := by rw [hW0]; simp [go_sem]
  have k1 : W0.cell? ⟨w1.heap.size + 1, 1, none⟩ = some (.int .u64 0) := by rw [hW0]; simp [go_sem]
  have k2 : W0.cell? ⟨w1.heap.size + 1 + 1 + 1, 0, none⟩ = some (.int .i64 0) := by rw [hW0]; simp [go_sem]
  have k3 : W0.cell? ⟨w1.heap.size + 1 + 1 + 1, 1, none⟩ = some (.int .u64 0) := by rw [hW0]; simp [go_sem]
  have kf : ∀ j, W0.frozen? ⟨w1.heap.size + 1, j, none⟩ = false := fun j => by rw [hW0]; simp [go_sem]
  have kg : ∀ j, W0.frozen? ⟨w1.heap.size + 1 + 1 + 1, j, none⟩ = false := fun j => by rw [hW0]; simp [go_sem]
  clear hW0
  obtain ⟨h10, h11, h12⟩ : w1.heap.size ≤ w1.heap.size + 1 ∧ w1.heap.size + 1 < w1.heap.size + 1 + 1 + 1 ∧ w1.heap.size + 1 + 1 + 1 < W0.heap.size := ⟨by omega, by omega, by omega⟩
  generalize w1.heap.size + 1 + 1 + 1 = b11 at *
  generalize w1.heap.size + 1 = b10 at *
  clear s0
  have gw : w.grownBy W0 none := grownBy_trans g1 g0 (.inl rfl)
  go_loopg [7, 8, 9, 12] xs.length (fun g sv sn sf si wr => ∃ (k : Nat) (ring : List (Int × Int)) (nx fl : Nat) (cur lon : Int × Int), k ≤ xs.length ∧ g = xs.length - k ∧ si = .int .i64 k ∧ sn = .int .i64 nx ∧ sf = .int .i64 fl ∧ wr.ownsRow W0.heap.size 40 2 sv ring.length (Pl ring) ∧
    wr.cell? ⟨b10, 0, none⟩ = some (.int .i64 cur.1) ∧ wr.cell? ⟨b10, 1, none⟩ = some (.int .u64 cur.2) ∧ wr.cell? ⟨b11, 0, none⟩ = some (.int .i64 lon.1) ∧ wr.cell? ⟨b11, 1, none⟩ = some (.int .u64 lon.2) ∧
    (∀ j, wr.frozen? ⟨b10, j, none⟩ = false) ∧ (∀ j, wr.frozen? ⟨b11, j, none⟩ = false) ∧ Kp W0 wr (fun k => k = b10 ∨ k = b11) ∧ Hid (LInv xs sz cap k ring nx cur fl))
  case atStart => exact ⟨0, [], 0, 0, (0, 0), (0, 0), Nat.zero_le _, rfl, rfl, rfl, rfl, World.ownsRow_nil _ _ _ _, k0, k1, k2, k3, kf, kg, Kp.refl _ _, LInv.zero xs sz cap hcn⟩
  case round =>
    obtain ⟨k, ring, nx, fl, cur, lon, hk, hgk, rfl, rfl, rfl, hown, q0, q1, q2, q3, qf, qg, hK, hinv⟩ := hrel
    clear k0 k1 k2 k3 kf kg
    by_cases hlt : k < xs.length
    · rcases hxB with h0 | ⟨b, o, rfl, hxB⟩
      · omega
      have hbz : b < w1.heap.size := World.block_lt_of_cell? _ _ (hxB k hlt).1
      have hbk : wr.heap[b]? = W0.heap[b]? := hK.block b (by omega) (by omega)
      have x1 := (World.cell?_of_block hbk (a := ⟨b, o + k * 2, none⟩)).trans (grownBy_cell g0 (hxB k hlt).1)
      have x2 := (World.cell?_of_block hbk (a := ⟨b, o + k * 2 + 1, none⟩)).trans (grownBy_cell g0 (hxB k hlt).2)
      have hinv2 := hinv.out.next hsn hcn
      have hfl := hinv.out.fllt hsn
      have hnx := hinv.out.nxlt hcn
      have hlon := hinv2.longest hsn hcn (by omega)
      have hrl : ring.length ≤ 1048576 := by
        have h1 := hinv.out.ilen
        have h2 : k / sz ≤ k := Nat.div_le_self _ _
        omega
      have HXB : Hid _ := hxB
      generalize hxk : xs.getD k (0, 0) = x at x1 x2 hinv2 hlon
      have HXK : Hid (xs.getD k (0, 0) = x) := hxk
      clear hxk hinv hxB hbk
      obtain ⟨a, c, rfl, _⟩ := own_form hown
      have hki : (0 : Int) ≤ (k : Int) := by omega
      have hkp : (k : Int) < (xs.length : Int) := by omega
      have HINV2 : Hid (_ ∧ _) := ⟨hinv2, hlon⟩
      clear hinv2 hlon
      have hws : b11 < wr.heap.size := by have := hK.size; omega
      have HK : Hid _ := hK
      have HQF : Hid (_ ∧ _) := ⟨qf, qg⟩
      clear hK qf qg
      go_upto_region 16 with fail
      obtain ⟨W5, hW5⟩ : ∃ W5, W5 = wr.alloc (Obj.cells #[Value.int IntKind.i64 x.1, Value.int IntKind.u64 x.2] 43) := ⟨_, rfl⟩
      rw [← hW5]
      have g5 : wr.grownBy W5 none := by rw [hW5]; exact World.grownBy_alloc _ _ _
      have s5 : W5.heap.size = wr.heap.size + 1 := by rw [hW5]; simp
      have z0 : W5.cell? ⟨wr.heap.size, 0, none⟩ = some (.int .i64 x.1) := by rw [hW5]; simp [go_sem]
      have z1 : W5.cell? ⟨wr.heap.size, 1, none⟩ = some (.int .u64 x.2) := by rw [hW5]; simp [go_sem]
      have p0 := grownBy_cell g5 q0
      have p1 := grownBy_cell g5 q1
      have p2 := grownBy_cell g5 q2
      have p3 := grownBy_cell g5 q3
      have HO : Hid (∀ wx, W5.grownBy wx none → wx.ownsRow W0.heap.size 40 2 (.slice a ring.length c) ring.length (Pl ring)) := fun wx g => owns_grown (owns_grown hown g5) g
      have HLO : Hid (∀ k, (Value.slice a ring.length c).ownBlock = some k → k < W5.heap.size) := fun k h => by have := (hown.lt _ h).2; omega
      have HN : Hid (∀ k, k < W0.heap.size → (Value.slice a ring.length c).ownBlock ≠ some k) := fun k hk h => by have := (hown.lt _ h).1; omega
      have HN2 : Hid ((Value.slice a ring.length c).ownBlock ≠ some wr.heap.size) := fun h => by have := (hown.lt _ h).2; omega
      have HB : Hid (∀ wx, W5.grownBy wx none → W0.heap.size ≤ wx.heap.size) := fun wx g => Nat.le_trans HK.out.size (Nat.le_trans g5.size g.size)
      have HG5 : Hid (wr.grownBy W5 none) := g5
      have l5 : wr.heap.size < W5.heap.size := by omega
      clear hW5 g5 hown q0 q1 q2 q3 x1 x2 s5
      go_cut [14, 15, 16, 17, 18] from 42 to 167 (fun s14 s15 s16 s17 s18 wx => ∃ p16 p18 : Nat, s15 = .int .i64 (lrNx sz cap ring nx fl : Int) ∧ s17 = .int .i64 (lrFl sz fl : Int) ∧ s16 = .pointer (some ⟨p16, 0, none⟩) ∧ s18 = .pointer (some ⟨p18, 0, none⟩) ∧
        wx.cell? ⟨p16, 0, none⟩ = some (.int .i64 (curOf fl cur x).1) ∧ wx.cell? ⟨p16, 1, none⟩ = some (.int .u64 (curOf fl cur x).2) ∧ wx.cell? ⟨p18, 0, none⟩ = some (.int .i64 (ringMax (lrRing sz cap ring nx cur fl x) (curOf fl cur x)).1) ∧ wx.cell? ⟨p18, 1, none⟩ = some (.int .u64 (ringMax (lrRing sz cap ring nx cur fl x) (curOf fl cur x)).2) ∧
        W5.heap.size ≤ p16 ∧ W5.heap.size ≤ p18 ∧ p16 ≠ p18 ∧ wx.ownsRow W0.heap.size 40 2 s14 (lrRing sz cap ring nx cur fl x).length (Pl (lrRing sz cap ring nx cur fl x)) ∧ Kp W5 wx (fun k => (Value.slice a ring.length c).ownBlock = some k))
      case first =>
        as_aux_lemma =>
          clear hb hcap hc1 hs1 gw g1 g0 hki hkp HXB HXK HINV2 HK HQF HG5 hk hgk hlt hbl hcn hsn hbz
          go_region_held3 (fun w' => w'.cell? ⟨b10, 0, none⟩ = some (.int .i64 cur.1) ∧ w'.cell? ⟨b10, 1, none⟩ = some (.int .u64 cur.2) ∧ w'.cell? ⟨b11, 0, none⟩ = some (.int .i64 lon.1) ∧ w'.cell? ⟨b11, 1, none⟩ = some (.int .u64 lon.2) ∧ w'.cell? ⟨wr.heap.size, 0, none⟩ = some (.int .i64 x.1) ∧ w'.cell? ⟨wr.heap.size, 1, none⟩ = some (.int .u64 x.2)) (refine ⟨?_, ?_, ?_, ?_, ?_, ?_⟩ <;> repeat (first | with_reducible assumption | with_reducible refine cell_one ?_ _ | with_reducible refine cell_drew ?_ | (with_reducible refine cell_set ?_ ?hne; (case hne => (dsimp only; omega)))))
            (first
              | (go_at_call 23; refine (zzi_any _ _ _).mono ?_; rintro e w' ⟨rfl, rfl⟩)
              | (go_at_call 24; refine zlr_out W0.heap.size sz cap a c ring nx cur fl lon x _ (HO.out _ (by repeat (first | with_reducible exact World.grownBy.refl _ _ | with_reducible refine grown_alloc ?_ _ | with_reducible refine grown_drew ?_))) hfl hsz hnx hrl (HB.out _ (by repeat (first | with_reducible exact World.grownBy.refl _ _ | with_reducible refine grown_alloc ?_ _ | with_reducible refine grown_drew ?_))) _ ?_; intro w2 v2 hown2 K2 F2; obtain ⟨A1, A2, A3, A4, A5⟩ := aft K2 (W := W5) (by repeat (first | with_reducible exact World.grownBy.refl _ _ | with_reducible refine grown_alloc ?_ _ | with_reducible refine grown_drew ?_)) HLO.out; have y0 := A3 _ (HN.out (b10) (by omega)) 0 _ p0; have y1 := A3 _ (HN.out (b10) (by omega)) 1 _ p1; have y2 := A3 _ (HN.out (b11) (by omega)) 0 _ p2; have y3 := A3 _ (HN.out (b11) (by omega)) 1 _ p3; have y4 := A3 _ HN2.out 0 _ z0; have y5 := A3 _ HN2.out 1 _ z1; (try ((have l0 : W5.heap.size < w2.heap.size := Nat.lt_of_lt_of_le ?p1 A5); (case p1 => first | (simp; done) | (simp; omega) | omega); (have e00 : w2.cell? ⟨W5.heap.size, 0, none⟩ = some (.int .i64 0) := Eq.trans (A1 _ _ ?p1 ?p2) ?p3); (case p1 => omega); (case p2 => first | (simp; done) | (simp; omega) | omega); (case p3 => simp [go_sem]); (have f00 : w2.frozen? ⟨W5.heap.size, 0, none⟩ = false := Eq.trans (A2 _ _ ?p1 ?p2) ?p3); (case p1 => omega); (case p2 => first | (simp; done) | (simp; omega) | omega); (case p3 => simp [go_sem]); (have e01 : w2.cell? ⟨W5.heap.size, 1, none⟩ = some (.int .u64 0) := Eq.trans (A1 _ _ ?p1 ?p2) ?p3); (case p1 => omega); (case p2 => first | (simp; done) | (simp; omega) | omega); (case p3 => simp [go_sem]); (have f01 : w2.frozen? ⟨W5.heap.size, 1, none⟩ = false := Eq.trans (A2 _ _ ?p1 ?p2) ?p3); (case p1 => omega); (case p2 => first | (simp; done) | (simp; omega) | omega); (case p3 => simp [go_sem]))); (try ((have l1 : W5.heap.size + 1 < w2.heap.size := Nat.lt_of_lt_of_le ?p1 A5); (case p1 => first | (simp; done) | (simp; omega) | omega); (have e10 : w2.cell? ⟨W5.heap.size + 1, 0, none⟩ = some (.int .i64 0) := Eq.trans (A1 _ _ ?p1 ?p2) ?p3); (case p1 => omega); (case p2 => first | (simp; done) | (simp; omega) | omega); (case p3 => simp [go_sem]); (have f10 : w2.frozen? ⟨W5.heap.size + 1, 0, none⟩ = false := Eq.trans (A2 _ _ ?p1 ?p2) ?p3); (case p1 => omega); (case p2 => first | (simp; done) | (simp; omega) | omega); (case p3 => simp [go_sem]); (have e11 : w2.cell? ⟨W5.heap.size + 1, 1, none⟩ = some (.int .u64 0) := Eq.trans (A1 _ _ ?p1 ?p2) ?p3); (case p1 => omega); (case p2 => first | (simp; done) | (simp; omega) | omega); (case p3 => simp [go_sem]); (have f11 : w2.frozen? ⟨W5.heap.size + 1, 1, none⟩ = false := Eq.trans (A2 _ _ ?p1 ?p2) ?p3); (case p1 => omega); (case p2 => first | (simp; done) | (simp; omega) | omega); (case p3 => simp [go_sem]))); (try ((have l2 : W5.heap.size + 1 + 1 < w2.heap.size := Nat.lt_of_lt_of_le ?p1 A5); (case p1 => first | (simp; done) | (simp; omega) | omega); (have e20 : w2.cell? ⟨W5.heap.size + 1 + 1, 0, none⟩ = some (.int .i64 0) := Eq.trans (A1 _ _ ?p1 ?p2) ?p3); (case p1 => omega); (case p2 => first | (simp; done) | (simp; omega) | omega); (case p3 => simp [go_sem]); (have f20 : w2.frozen? ⟨W5.heap.size + 1 + 1, 0, none⟩ = false := Eq.trans (A2 _ _ ?p1 ?p2) ?p3); (case p1 => omega); (case p2 => first | (simp; done) | (simp; omega) | omega); (case p3 => simp [go_sem]); (have e21 : w2.cell? ⟨W5.heap.size + 1 + 1, 1, none⟩ = some (.int .u64 0) := Eq.trans (A1 _ _ ?p1 ?p2) ?p3); (case p1 => omega); (case p2 => first | (simp; done) | (simp; omega) | omega); (case p3 => simp [go_sem]); (have f21 : w2.frozen? ⟨W5.heap.size + 1 + 1, 1, none⟩ = false := Eq.trans (A2 _ _ ?p1 ?p2) ?p3); (case p1 => omega); (case p2 => first | (simp; done) | (simp; omega) | omega); (case p3 => simp [go_sem]))); have HR : Hid (_ ∧ _ ∧ _) := ⟨hown2, A4, F2⟩; clear A1 A2 A3 A4 hown2 K2 F2))
          all_goals go_wp2_with fail
          all_goals go_meet
          all_goals
            refine ⟨_, _, rfl, rfl, rfl, rfl, ?_⟩
            first
              | with_reducible exact fin_A HR.out HLO.out
              | with_reducible exact fin_A' HR.out HLO.out
              | (with_reducible refine fin_B (z0 := .int .i64 0) (z1 := .int .u64 0) HR.out HLO.out ?_ ?_ ?_ ?_ <;> first | with_reducible assumption | omega | (simp; done) | (simp; omega))
              | (with_reducible refine fin_C (z0 := .int .i64 0) (z1 := .int .u64 0) HR.out HLO.out ?_ ?_ ?_ ?_ <;> first | with_reducible assumption | omega | (simp; done) | (simp; omega))
              | (with_reducible refine fin_D (z0 := .int .i64 0) (z1 := .int .u64 0) (y0 := .int .i64 0) (y1 := .int .u64 0) HR.out HLO.out ?_ ?_ ?_ ?_ ?_ ?_ ?_ ?_ ?_ <;> first | with_reducible assumption | omega | (simp; done) | (simp; omega))
      case rest =>
        as_aux_lemma =>
          obtain ⟨p16, p18, rfl, rfl, rfl, rfl, c0, c1', d0, d1, l16, l18, n16, hown3, K3⟩ := hcut
          have hne10 : (Value.slice a ring.length c).ownBlock ≠ some b10 := HN.out _ (by omega)
          have hne11 : (Value.slice a ring.length c).ownBlock ≠ some b11 := HN.out _ (by omega)
          have k10 : wc.heap[b10]? = W5.heap[b10]? := K3.block b10 (by omega) hne10
          have k11 : wc.heap[b11]? = W5.heap[b11]? := K3.block b11 (by omega) hne11
          have y0 := (World.cell?_of_block k10 (a := ⟨b10, 0, none⟩)).trans p0
          have y1 := (World.cell?_of_block k10 (a := ⟨b10, 1, none⟩)).trans p1
          have y2 := (World.cell?_of_block k11 (a := ⟨b11, 0, none⟩)).trans p2
          have y3 := (World.cell?_of_block k11 (a := ⟨b11, 1, none⟩)).trans p3
          have f10 : ∀ j, wc.frozen? ⟨b10, j, none⟩ = false := fun j => (World.frozen?_of_block k10).trans (((World.frozen?_of_block (HG5.out.block b10 (by omega) (by simp)))).trans (HQF.out.1 j))
          have f11 : ∀ j, wc.frozen? ⟨b11, j, none⟩ = false := fun j => (World.frozen?_of_block k11).trans (((World.frozen?_of_block (HG5.out.block b11 (by omega) (by simp)))).trans (HQF.out.2 j))
          have kb : wc.heap[b]? = w1.heap[b]? := ((K3.block b (by omega) (HN.out _ (by omega))).trans (HG5.out.block b (by omega) (by simp))).trans ((HK.out.block b (by omega) (by omega)).trans (g0.block b hbz (by simp)))
          have KW : Kp W0 wc (fun k => k = b10 ∨ k = b11) := kp_new HK.out HG5.out K3 HN.out
          have HI := HINV2.out
          clear HINV2 p0 p1 p2 p3 z0 z1 k10 k11 HO HLO HN HN2 HB K3 HQF HK HG5
          generalize lrRing sz cap ring nx cur fl x = rg at HI d0 d1 hown3
          generalize curOf fl cur x = cu at HI c0 c1' d0 d1
          generalize ringMax rg cu = lo at HI d0 d1
          generalize lrNx sz cap ring nx fl = nx2 at *
          generalize lrFl sz fl = fl2 at *
          have HI2 : Hid _ := HI
          have HKB : Hid _ := kb
          have HKW : Hid _ := KW
          have HOW : Hid _ := hown3
          clear HI kb KW hown3
          have n1 : b10 ≠ b11 := by omega
          have n2 : p16 ≠ b10 := by omega
          have n3 : p16 ≠ b11 := by omega
          have n4 : p18 ≠ b10 := by omega
          have n5 : p18 ≠ b11 := by omega
          go_upto_region 17 with fail
          go_region
          obtain ⟨W6, hW6⟩ : ∃ W6, W6 = ((((wc.setCell ⟨b10, 0, none⟩ (.int .i64 cu.1)).setCell ⟨b10, 1, none⟩ (.int .u64 cu.2)).setCell ⟨b11, 0, none⟩ (.int .i64 lo.1)).setCell ⟨b11, 1, none⟩ (.int .u64 lo.2)).drew := ⟨_, rfl⟩
          rw [← hW6]
          obtain ⟨v0, v1, v2, v3, HF, HK6, HO6, HB6⟩ := put_two HKW.out HOW.out hW6 y0 y1 y2 y3 f10 f11 n1 (by omega) h12 b (by omega) (by omega)
          clear hW6 y0 y1 y2 y3 f10 f11 HKW HOW c0 c1' d0 d1 n1 n2 n3 n4 n5 n16 l16 l18 hne10 hne11
          have HXB6 : Hid (∀ (i : Nat), i < xs.length → W6.cell? ⟨b, o + i * 2, none⟩ = some (.int .i64 (xs.getD i (0, 0)).1) ∧ W6.cell? ⟨b, o + i * 2 + 1, none⟩ = some (.int .u64 (xs.getD i (0, 0)).2)) := fun i hi => ⟨(World.cell?_of_block (HB6.trans HKB.out)).trans (HXB.out i hi).1, (World.cell?_of_block (HB6.trans HKB.out)).trans (HXB.out i hi).2⟩
          have H6 : Hid (_ ∧ _ ∧ _) := ⟨HF, HK6, HO6⟩
          clear HF HK6 HO6 HB6 HKB HXB
          obtain ⟨hI, hlo⟩ := HI2.out
          have hdv : ((k : Int) + 1).tdiv (sz : Int) = (((k + 1) / sz : Nat) : Int) := by rw [Int.tdiv_eq_ediv_of_nonneg (by omega)]; norm_cast
          have hql : (k + 1) / sz ≤ k + 1 := Nat.div_le_self _ _
          have hmul := Nat.div_mul_le_self (k + 1) sz
          generalize hq : (k + 1) / sz = q at hlo hdv hql hmul
          obtain ⟨m, hm⟩ : ∃ m, min q cap = m := ⟨_, rfl⟩
          have hmq : m ≤ q := by omega
          have hmi : min (q : Int) (cap : Int) = (m : Int) := by omega
          have hrm : ((k : Int) + 1).tmod (sz : Int) = (((k + 1) % sz : Nat) : Int) := by rw [Int.tmod_eq_emod_of_nonneg (by omega)]; norm_cast
          have hfl2 : Hid (fl2 = (k + 1) % sz) := hI.ifl
          rw [← hfl2.out] at hrm
          obtain ⟨a2, c2, rfl, _⟩ := own_form H6.out.2.2
          have hlen : rg.length = m := by rw [hI.ilen, hq, hm]
          have hnx2 := hI.nxlt hcn
          have hnx0 : m < cap → nx2 = 0 := fun h => by have := hI.inx; rw [hq] at this; rw [this, if_pos (by omega)]
          have HN6 : Hid (LInv xs sz cap (k + 1) rg nx2 cu fl2) := hI
          have hmc : m ≤ cap := by omega
          have HQ : Hid ((k + 1) / sz = q ∧ min q cap = m) := ⟨hq, hm⟩
          have HFA : Hid (m < cap → nx2 = 0) := hnx0
          clear hI hlo HI2 hq hm hnx0
          go_upto_region 23 with (go_at_call 20; refine (minInt_any' _ _ _).mono ?_; rintro e w' ⟨rfl, rfl⟩)
          go_cut [115] from 42 to 167 (fun s wx => s = .bool false ∧ wx = W6)
          case first =>
            by_cases hmm : m < cap
            · have hz := HFA.out hmm
              subst hz
              have hmi2 : (m : Int) < (cap : Int) := by omega
              have hmi3 : ((m : Int) == (cap : Int)) = false := by simp; omega
              clear hmc hmq hmi hrm hnx2 hdv hql
              go_wp2
              go_meet
              case rel => exact ⟨rfl, rfl⟩
            · have he : m = cap := by omega
              subst he
              have hb1' : (decide ((nx2 : Int) < 0) || decide (m ≤ nx2)) = false := by simp; omega
              have HB1 : Hid _ := hb1'
              clear hb1'
              go_wp2
              go_meet
              case rel => exact ⟨by rw [HB1.out], rfl⟩
          case rest =>
            obtain ⟨rfl, hw⟩ := hcut
            have hw := hw.symm
            subst hw
            have HSP : Hid (∀ (f t : Nat) (p : Int × Int) (wx : World), f < t → t ≤ xs.length → p = maxOf xs f t → W6.grownBy wx none → Calls Try.prog 26 #[.slice (some ⟨b, o, none⟩) xs.length cB, .int .i64 (f : Int), .int .i64 (t : Int)] wx fun e w' => e = .returned (.agg #[.int .i64 p.1, .int .u64 p.2]) ∧ W6.grownBy w' none) := by
              intro f t p wx hft htl hp g
              subst hp
              refine (span_walk b o cB xs f t wx (by omega) hft htl (fun i hi => ⟨grownBy_cell g (HXB6.out i hi).1, grownBy_cell g (HXB6.out i hi).2⟩)).mono ?_
              rintro e w' ⟨rfl, g2⟩
              exact ⟨rfl, grownBy_trans g g2 (.inl rfl)⟩
            go_upto_if 117 with fail
            go_cut [] from 42 to 167 (fun wx => W6.grownBy wx none)
            case first =>
              by_cases hf0 : fl2 = 0
              · have HF0 : Hid (fl2 = 0) := hf0
                clear hf0
                obtain ⟨f, hf⟩ : ∃ f, (q - 1) * sz = f := ⟨_, rfl⟩
                have hqk : q * sz = k + 1 := by
                  have e := Nat.div_add_mod (k + 1) sz
                  rw [HQ.out.1, Nat.mul_comm, ← hfl2.out, HF0.out] at e
                  exact e
                have hq1 : 1 ≤ q := by
                  rcases Nat.eq_zero_or_pos q with h | h
                  · rw [h] at hqk; omega
                  · exact h
                have hfi : ((q : Int) - 1) * (sz : Int) = (f : Int) := by
                  have : ((q : Int) - 1) = ((q - 1 : Nat) : Int) := by omega
                  rw [this, ← hf]; norm_cast
                have hti : (q : Int) * (sz : Int) = (k : Int) + 1 := by exact_mod_cast hqk
                have hcu : Hid (cu = maxOf xs f (k + 1)) := by
                  have := HN6.out.ilast (by rw [← hfl2.out]; exact HF0.out) (by omega)
                  rw [HQ.out.1, hf, hqk] at this
                  exact this
                have hflt : f < k + 1 := by
                  have : (q - 1) * sz + sz = q * sz := by
                    rw [← Nat.succ_mul]; congr 1; omega
                  omega
                clear hf hqk
                have hwf : IntKind.i64.wrap (f : Int) = (f : Int) := IntWalk.i64_in _ (by omega)
                have hwt : IntKind.i64.wrap ((k : Int) + 1) = (k : Int) + 1 := IntWalk.i64_in _ (by omega)
                have hwq : IntKind.i64.wrap ((q : Int) - 1) = (q : Int) - 1 := IntWalk.i64_in _ (by omega)
                have hf1 : ¬ (0 : Int) < (fl2 : Int) := by have := HF0.out; omega
                have H26 : Hid (∀ (wx : World), W6.grownBy wx none → Calls Try.prog 26 #[.slice (some ⟨b, o, none⟩) xs.length cB, .int .i64 (f : Int), .int .i64 ((k : Int) + 1)] wx fun e w' => e = .returned (.agg #[.int .i64 cu.1, .int .u64 cu.2]) ∧ W6.grownBy w' none) := fun wx g => by simpa using HSP.out f (k + 1) cu wx hflt (by omega) hcu.out g
                go_upto_region 28 with fail
                go_region_held3 (fun w' => w'.cell? ⟨b10, 0, none⟩ = some (.int .i64 cu.1) ∧ w'.cell? ⟨b10, 1, none⟩ = some (.int .u64 cu.2)) (refine ⟨?_, ?_⟩ <;> repeat (first | with_reducible assumption | with_reducible refine cell_one ?_ _ | with_reducible refine cell_drew ?_))
                  (first
                    | (go_at_call 26; refine (H26.out _ (by repeat (first | with_reducible exact World.grownBy.refl _ _ | with_reducible refine grown_drew ?_))).mono ?_; rintro e w2 ⟨rfl, G2⟩; have o2 := grownBy_cell G2 v0; have o3 := grownBy_cell G2 v1)
                    | (go_at_call 25; refine (same_any _ _ _).mono ?_; rintro e w3 ⟨rfl, G3⟩; have G4 := grownBy_trans (w := W6) (by repeat (first | exact G2 | with_reducible refine grown_drew ?_)) G3 (.inl rfl); have o2 := grownBy_cell G4 v0; have o3 := grownBy_cell G4 v1))
                go_wp2
                go_meet
                case rel => exact G4
              · have hf1 : (0 : Int) < (fl2 : Int) := by omega
                obtain ⟨f, hf⟩ : ∃ f, q * sz = f := ⟨_, rfl⟩
                have hfi : (q : Int) * (sz : Int) = (f : Int) := by rw [← hf]; norm_cast
                have hcu : Hid (cu = maxOf xs f (k + 1)) := by
                  have := HN6.out.icur (by rw [← hfl2.out]; exact hf0)
                  rw [HQ.out.1, hf] at this
                  exact this
                have hflt : f < k + 1 := by
                  have e := Nat.div_add_mod (k + 1) sz
                  rw [HQ.out.1, Nat.mul_comm, hf, ← hfl2.out] at e
                  omega
                clear hf
                have hwf : IntKind.i64.wrap (f : Int) = (f : Int) := IntWalk.i64_in _ (by omega)
                have H26 : Hid (∀ (wx : World), W6.grownBy wx none → Calls Try.prog 26 #[.slice (some ⟨b, o, none⟩) xs.length cB, .int .i64 (f : Int), .int .i64 ((k : Int) + 1)] wx fun e w' => e = .returned (.agg #[.int .i64 cu.1, .int .u64 cu.2]) ∧ W6.grownBy w' none) := fun wx g => by simpa using HSP.out f (k + 1) cu wx hflt (by omega) hcu.out g
                go_upto_region 26 with fail
                go_region_held3 (fun w' => w'.cell? ⟨b10, 0, none⟩ = some (.int .i64 cu.1) ∧ w'.cell? ⟨b10, 1, none⟩ = some (.int .u64 cu.2)) (refine ⟨?_, ?_⟩ <;> repeat (first | with_reducible assumption | with_reducible refine cell_one ?_ _ | with_reducible refine cell_drew ?_))
                  (first
                    | (go_at_call 26; refine (H26.out _ (by repeat (first | with_reducible exact World.grownBy.refl _ _ | with_reducible refine grown_drew ?_))).mono ?_; rintro e w2 ⟨rfl, G2⟩; have o2 := grownBy_cell G2 v0; have o3 := grownBy_cell G2 v1)
                    | (go_at_call 25; refine (same_any _ _ _).mono ?_; rintro e w3 ⟨rfl, G3⟩; have G4 := grownBy_trans (w := W6) (by repeat (first | exact G2 | with_reducible refine grown_drew ?_)) G3 (.inl rfl); have o2 := grownBy_cell G4 v0; have o3 := grownBy_cell G4 v1))
                go_wp2
                go_meet
                case rel => exact G4
            case rest =>
              have hnb : nx2 ≤ 4097 := by
                by_cases h : m < cap
                · have := HFA.out h; omega
                · omega
              have HRG : Hid (∀ j, j < m → rg.getD ((nx2 + j) % m) (0, 0) = maxOf xs ((q - m + j) * sz) ((q - m + j + 1) * sz)) := by
                intro j hj
                have h1 := HN6.out.iring (q - m + j) (by rw [HQ.out.1]; omega) (by rw [HQ.out.1]; omega)
                have h2 : (q - m + j) % cap = (nx2 + j) % m := by
                  by_cases h : m < cap
                  · have hqm : m = q := by have := HQ.out.2; omega
                    rw [HFA.out h, hqm, Nat.mod_eq_of_lt (by omega), Nat.mod_eq_of_lt (by omega)]
                    omega
                  · have hcm : cap = m := by omega
                    have hn := HN6.out.inx
                    rw [HQ.out.1, if_neg (by omega)] at hn
                    rw [hn, hcm, Nat.mod_add_mod]
                    have : q + j = (q - m + j) + m := by omega
                    rw [this, Nat.add_mod_right]
                rw [← h2]
                exact h1
              have HQS : Hid (q * sz ≤ k + 1) := by
                have e := Nat.div_add_mod (k + 1) sz
                rw [HQ.out.1, Nat.mul_comm] at e
                show q * sz ≤ k + 1
                omega
              go_wp2
              go_loopg [22] m (fun g sj wl => ∃ j : Nat, j ≤ m ∧ g = m - j ∧ sj = .int .i64 j ∧ W6.grownBy wl none)
              case atStart => exact ⟨0, Nat.zero_le _, rfl, rfl, hcut⟩
              case round =>
                obtain ⟨j, hj, hgj, rfl, Gl⟩ := hrel
                by_cases hjm : j < m
                · obtain ⟨r, hr⟩ : ∃ r, (nx2 + j) % m = r := ⟨_, rfl⟩
                  have hrm' : r < m := by rw [← hr]; exact Nat.mod_lt _ (by omega)
                  have hri : ((nx2 : Int) + (j : Int)).tmod (m : Int) = (r : Int) := by rw [Int.tmod_eq_emod_of_nonneg (by omega), ← hr]; norm_cast
                  obtain ⟨B, hB⟩ : ∃ B, q - m + j = B := ⟨_, rfl⟩
                  have hbi : (q : Int) - (m : Int) + (j : Int) = (B : Int) := by omega
                  have hBq : B < q := by omega
                  obtain ⟨f, hf⟩ : ∃ f, B * sz = f := ⟨_, rfl⟩
                  obtain ⟨t, ht⟩ : ∃ t, (B + 1) * sz = t := ⟨_, rfl⟩
                  have hfi : (B : Int) * (sz : Int) = (f : Int) := by rw [← hf]; norm_cast
                  have hti : ((B : Int) + 1) * (sz : Int) = (t : Int) := by rw [← ht]; norm_cast
                  have hft : f < t := by rw [← hf, ← ht, Nat.succ_mul]; omega
                  have htk : t ≤ k + 1 := by rw [← ht]; exact Nat.le_trans (Nat.mul_le_mul_right sz hBq) HQS.out
                  have hp := HRG.out j hjm
                  rw [hr, hB, hf, ht] at hp
                  obtain ⟨_, _, hvv, _, _, _, hx⟩ := rp_of_owns H6.out.2.2
                  cases hvv
                  rcases hx with h0 | ⟨gb, go, rfl, hx⟩
                  · omega
                  have q0 := grownBy_cell Gl (hx r (by omega)).1
                  have q1 := grownBy_cell Gl (hx r (by omega)).2
                  have r0 := (hx r (by omega)).1
                  have r1 := (hx r (by omega)).2
                  generalize rg.getD r (0, 0) = p at q0 q1 r0 r1 hp
                  have HP : Hid (p = maxOf xs f t) := hp
                  clear hp hx hr hB hf ht
                  have H26 : Hid (∀ (wx : World), W6.grownBy wx none → Calls Try.prog 26 #[.slice (some ⟨b, o, none⟩) xs.length cB, .int .i64 (f : Int), .int .i64 (t : Int)] wx fun e w' => e = .returned (.agg #[.int .i64 p.1, .int .u64 p.2]) ∧ W6.grownBy w' none) := fun wx g => HSP.out f t p wx hft (by omega) HP.out g
                  have hj0 : (0 : Int) ≤ (j : Int) := by omega
                  have hjm2 : (j : Int) < (m : Int) := by omega
                  have hr0 : (0 : Int) ≤ (r : Int) := by omega
                  have hr1 : (r : Int) < (m : Int) := by omega
                  have hm0 : ¬ ((m : Int) = 0) := by omega
                  have hm1 : ¬ (m = 0) := by omega
                  have e1 : IntKind.i64.wrap ((nx2 : Int) + (j : Int)) = (nx2 : Int) + (j : Int) := IntWalk.i64_in _ (by omega)
                  have e2 : IntKind.i64.wrap (r : Int) = (r : Int) := IntWalk.i64_in _ (by omega)
                  have e3 : IntKind.i64.wrap (f : Int) = (f : Int) := IntWalk.i64_in _ (by omega)
                  have e4 : IntKind.i64.wrap (t : Int) = (t : Int) := IntWalk.i64_in _ (by omega)
                  have e5 : IntKind.i64.wrap ((B : Int) + 1) = (B : Int) + 1 := IntWalk.i64_in _ (by omega)
                  go_upto_region 34 with fail
                  go_region_held3 (fun w' => w'.cell? ⟨gb, go + r * 2, none⟩ = some (.int .i64 p.1) ∧ w'.cell? ⟨gb, go + r * 2 + 1, none⟩ = some (.int .u64 p.2)) (refine ⟨?_, ?_⟩ <;> repeat (first | with_reducible assumption | with_reducible refine cell_one ?_ _ | with_reducible refine cell_drew ?_))
                    (first
                      | (go_at_call 26; refine (H26.out _ (by repeat (first | with_reducible exact Gl | with_reducible refine grown_drew ?_))).mono ?_; rintro e w2 ⟨rfl, G2⟩; have o2 := grownBy_cell G2 r0; have o3 := grownBy_cell G2 r1)
                      | (go_at_call 25; refine (same_any _ _ _).mono ?_; rintro e w3 ⟨rfl, G3⟩; have G4 := grownBy_trans (w := W6) (by repeat (first | exact G2 | with_reducible refine grown_drew ?_)) G3 (.inl rfl); have o2 := grownBy_cell G4 r0; have o3 := grownBy_cell G4 r1))
                  all_goals go_wp2
                  all_goals
                    go_roundg (m - (j + 1))
                    case measure => omega
                    case rel => exact ⟨j + 1, hjm, rfl, by go_num, G4⟩
                · go_wp2
                  go_roundg (xs.length - (k + 1))
                  case measure => omega
                  case rel =>
                    have H := H6.out
                    refine ⟨k + 1, rg, nx2, fl2, cu, lo, by omega, rfl, by go_num, rfl, rfl, by rw [hlen] at H ⊢; exact owns_grown H.2.2 Gl, grownBy_cell Gl v0, grownBy_cell Gl v1, grownBy_cell Gl v2, grownBy_cell Gl v3, fun j => ?_, fun j => ?_, H.2.1.grown Gl (fun k h => by cases h), HN6.out⟩
                    · exact (World.frozen?_of_block (Gl.block b10 (World.block_lt_of_cell? _ _ v0) (by simp))).trans (H.1.1 j)
                    · exact (World.frozen?_of_block (Gl.block b11 (World.block_lt_of_cell? _ _ v2) (by simp))).trans (H.1.2 j)
    · go_wp2
      go_ret
      refine ⟨rfl, ?_⟩
      exact below_new gw hK (fun k hk e => by have := g1.size; omega)
end Go.Proofs.Qxb6601294a
