import Derived.Test.Qxb6600752aHist
namespace Go.Proofs.Qxb6600752a
open Go.RowKit Go.Maps

set_option maxHeartbeats 400000 in
theorem new_any (a : Option Addr) (n c : Nat) (w : World) : Calls Try.prog 36 #[.slice a n c] w fun e w' => e = .returned (.pointer (some ⟨w.heap.size + 1, 0, none⟩)) ∧ w' = (w.alloc (.map #[] 0)).alloc (.cells #[.slice a n c, .slice none 0 0, .map (some w.heap.size)] 97) := by
  have hmm := @run_makeMap Try.prog
  go_enter Try.func36, Try.ntmps36
  go_wp2
  go_ret
  exact ⟨rfl, rfl⟩

theorem hs_new (w : World) (vt : Value) : Hs ((w.alloc (.map #[] 0)).alloc (.cells #[vt, .slice none 0 0, .map (some w.heap.size)] 97)) (w.heap.size + 1) (w.heap.size + 2) w.heap.size 0 vt (.slice none 0 0) [] (fun _ => false) := by
  refine ⟨by simp [go_sem], by simp [go_sem], by simp [go_sem], fun j => by simp [go_sem], World.ownsRow_nil _ _ _ _, ⟨fun _ => none, fun z => rfl, ?_⟩, by omega, by omega, by omega, by simp⟩
  exact (OwnsM.made w 44).kept (World.grownBy_alloc _ _ none) (by simp)

set_option maxHeartbeats 400000 in
theorem zzadd_any (H base Bm n : Nat) (vt : Value) (a : Option Addr) (c : Nat) (es : List (Int × Nat × ByteArray)) (cm : Int → Bool) (t : Int) (ac : Nat) (s : ByteArray) (w : World) (h : Hs w H base Bm n vt (.slice a es.length c) es cm) (ha : ac < 4) (ht : (Lit.int .i64 t).wf = true) (hl : es.length ≤ 4096) (hn : n ≤ 4096) :
    Calls Try.prog 37 #[.pointer (some ⟨H, 0, none⟩), .int .i64 t, .int .i64 (ac : Int), .string s] w (AddOut w H base Bm n vt (.slice a es.length c) es cm t ac s) := by
  go_enter Try.func37, Try.ntmps37
  go_wp2_with (go_at_call 45; refine (add_any H base Bm n vt a c es cm t ac s w h ha ht hl hn).mono ?_; rintro e w' ⟨rfl, hA⟩)
  exact bodyPost_end (results_none rfl _ _ _) rfl ⟨rfl, hA⟩

/-- The history's events, and who has committed, after k of them. -/
def evAt (ts : List Int) (ev ac : List Nat) (ss : List ByteArray) (i : Nat) : Int × Nat × ByteArray := (ts.getD (ev.getD i 0 % ts.length) 0, ac.getD i 0 % 4, ss.getD i ByteArray.empty)
def evTo (ts : List Int) (ev ac : List Nat) (ss : List ByteArray) (k : Nat) : List (Int × Nat × ByteArray) := (List.range k).map (evAt ts ev ac ss)
def cmTo (ts : List Int) (ev ac : List Nat) (ss : List ByteArray) : Nat → Int → Bool
  | 0, _ => false
  | k + 1, z => if z = (evAt ts ev ac ss k).1 ∧ 2 ≤ (evAt ts ev ac ss k).2.1 then decide ((evAt ts ev ac ss k).2.1 = 2) else cmTo ts ev ac ss k z
theorem evTo_succ (ts : List Int) (ev ac : List Nat) (ss : List ByteArray) (k : Nat) : evTo ts ev ac ss (k + 1) = evTo ts ev ac ss k ++ [evAt ts ev ac ss k] := by simp [evTo, List.range_succ]
theorem evTo_length (ts : List Int) (ev ac : List Nat) (ss : List ByteArray) (k : Nat) : (evTo ts ev ac ss k).length = k := by simp [evTo]

theorem cm_aux {ts : List Int} (hd : ts.Nodup) (c : List Bool) (hl : c.length = ts.length) (b : Bool) (x y r : Nat) (hx : x < ts.length) (hy : y < ts.length) (hr : r < 4) (ih : b = c.getD x false) :
    (if ts.getD x 0 = ts.getD y 0 ∧ 2 ≤ r then decide (r = 2) else b) = (if r = 2 then c.set y true else if r = 3 then c.set y false else c).getD x false := by
  have hxy : ts.getD x 0 = ts.getD y 0 ↔ x = y := by
    simp only [List.getD_eq_getElem?_getD, List.getElem?_eq_getElem hx, List.getElem?_eq_getElem hy, Option.getD_some]
    constructor
    · intro e
      have hp := List.pairwise_iff_getElem.1 hd
      rcases Nat.lt_trichotomy x y with h | h | h
      · exact absurd e (hp x y hx hy h)
      · exact h
      · exact absurd e.symm (hp y x hy hx h)
    · rintro rfl
      rfl
  simp only [hxy, ih]
  by_cases e : x = y
  · subst e
    have : r = 0 ∨ r = 1 ∨ r = 2 ∨ r = 3 := by omega
    rcases this with rfl | rfl | rfl | rfl <;> simp [hl, hx]
  · have : r = 0 ∨ r = 1 ∨ r = 2 ∨ r = 3 := by omega
    rcases this with rfl | rfl | rfl | rfl <;> simp [e, Ne.symm e]
/-- The map of the history tells who commits. -/
theorem cm_com {ts : List Int} (hd : ts.Nodup) (ev ac : List Nat) (ss : List ByteArray) : ∀ k x, x < ts.length → cmTo ts ev ac ss k (ts.getD x 0) = (comTo ts.length ev ac k).getD x false
  | 0, x, hx => by simp [cmTo, comTo, hx]
  | k + 1, x, hx =>
    cm_aux hd _ (comTo_length ts.length ev ac k) _ x _ _ hx (Nat.mod_lt _ (by omega)) (Nat.mod_lt _ (by omega)) (cm_com hd ev ac ss k x hx)

set_option maxRecDepth 6000 in
set_option maxHeartbeats 2000000 in
theorem build_any (a0 a1 a2 a3 : Option Addr) (c0 c1 c2 c3 : Nat) (ts : List Int) (ev ac : List Nat) (ss : List ByteArray) (w : World)
    (hm : ev.length ≤ 4096) (hn : ts.length ≤ 4096) (hac : ac.length = ev.length) (hss : ss.length = ev.length) (hn0 : 0 < ev.length → 0 < ts.length)
    (h0 : IRow w a0 ts) (h1 : URow w a1 ev) (h2 : URow w a2 ac) (h3 : SRow w a3 ss) (hu1 : ∀ u ∈ ev, u < 256) (hu2 : ∀ u ∈ ac, u < 256) (hz : ∀ z ∈ ts, (Lit.int .i64 z).wf = true) :
    Calls Try.prog 17 #[.slice a0 ts.length c0, .slice a1 ev.length c1, .slice a2 ac.length c2, .slice a3 ss.length c3, .int .i64 (-1)] w fun e w' => ∃ H base Bm vt a c, e = .returned (.pointer (some ⟨H, 0, none⟩)) ∧ Hid (Hs w' H base Bm ev.length vt (.slice a ev.length c) (evTo ts ev ac ss ev.length) (cmTo ts ev ac ss ev.length) ∧ w.heap.size ≤ Bm ∧ w.heap.size ≤ H ∧ w.grownBy w' none) := by
  go_enter Try.func17, Try.ntmps17
  go_wp2_with (first | (go_at_call 26; refine (txns_any a0 c0 ts w (by omega) h0).mono ?_; rintro e w1 ⟨rfl, ho1, g1⟩) | (go_at_call 36; refine (new_any _ _ _ _).mono ?_; rintro e w2 ⟨rfl, rfl⟩))
  obtain ⟨w2, hw2⟩ : ∃ w2, w2 = (w1.alloc (.map #[] 0)).alloc (.cells #[.slice (some ⟨w.heap.size, 0, none⟩) ts.length ts.length, .slice none 0 0, .map (some w1.heap.size)] 97) := ⟨_, rfl⟩
  rw [← hw2]
  have hS := hs_new w1 (.slice (some ⟨w.heap.size, 0, none⟩) ts.length ts.length)
  rw [← hw2] at hS
  have g2 : w.grownBy w2 none := by rw [hw2]; exact grown_alloc (grown_alloc g1 _) _
  have hwb : w.heap.size ≤ w1.heap.size := g1.size
  obtain ⟨hb1, hb2, hb3⟩ : w1.heap.size < w1.heap.size + 2 ∧ w1.heap.size ≤ w1.heap.size + 1 ∧ w1.heap.size + 1 < w1.heap.size + 2 := ⟨by omega, by omega, by omega⟩
  clear hw2 ho1 g1
  generalize w1.heap.size + 2 = base at *
  generalize w1.heap.size + 1 = H at *
  generalize w1.heap.size = Bm at *
  go_loopg [12] ev.length (fun g si wr => ∃ (k : Nat) (a : Option Addr) (c : Nat), k ≤ ev.length ∧ g = ev.length - k ∧ si = .int .i64 k ∧ Hid (Hs wr H base Bm k (.slice (some ⟨w.heap.size, 0, none⟩) ts.length ts.length) (.slice a k c) (evTo ts ev ac ss k) (cmTo ts ev ac ss k)) ∧ w.grownBy wr none)
  case atStart => exact ⟨0, none, 0, Nat.zero_le _, rfl, rfl, hS, g2⟩
  case round =>
    obtain ⟨k, a, c, hk, hgk, rfl, hS, hg⟩ := hrel
    by_cases hlt : k < ev.length
    · rcases h1 with h | ⟨b1, o1, rfl, hc1⟩
      · omega
      rcases h2 with h | ⟨b2, o2, rfl, hc2⟩
      · omega
      rcases h3 with h | ⟨b3, o3, rfl, hc3⟩
      · omega
      have hnn := hn0 (by omega)
      rcases h0 with h | ⟨b0, o0, rfl, hc0⟩
      · omega
      have ce := grownBy_cell hg (hc1 k hlt)
      have ha0 := hc2 k (by omega)
      have hs0 := hc3 k (by omega)
      have ca := grownBy_cell hg ha0
      have cs := grownBy_cell hg hs0
      have hbb1 := hu1 _ (List.getElem_mem hlt)
      have hbb2 := hu2 _ (List.getElem_mem (show k < ac.length by omega))
      have HE : Hid (evAt ts ev ac ss k = (ts.getD (ev[k] % ts.length) 0, ac[k] % 4, ss[k])) := by
        show _ = _
        simp only [evAt, List.getD_eq_getElem?_getD, List.getElem?_eq_getElem hlt, List.getElem?_eq_getElem (show k < ac.length by omega), List.getElem?_eq_getElem (show k < ss.length by omega), Option.getD_some]
      have HT := fun (wx : World) (h : wx.cell? ⟨b1, o1 + k, none⟩ = some (.int .u8 (ev[k] : Int))) => txn_any (some ⟨b0, o0, none⟩) ts.length c0 b1 o1 ev.length c1 k ev[k] wx h hbb1 hlt (by omega) hnn (by omega)
      have hx : ev[k] % ts.length < ts.length := Nat.mod_lt _ hnn
      generalize ev[k] = u at *
      generalize u % ts.length = x at *
      generalize ac[k] = t at *
      generalize ss[k] = s at *
      have hz0 := hc0 x hx
      have cz := grownBy_cell hg hz0
      have hwf := hz _ (List.getElem_mem hx)
      have hzg : ts.getD x 0 = ts[x] := by simp [hx]
      rw [hzg] at HE
      clear hzg
      generalize ts[x] = z at *
      have hr : ((t : Int)).tmod 4 = ((t % 4 : Nat) : Int) := by rw [Int.tmod_eq_emod_of_nonneg (by omega)]; omega
      have hr4 : t % 4 < 4 := Nat.mod_lt _ (by omega)
      generalize t % 4 = r at *
      have hki : (0 : Int) ≤ (k : Int) := by omega
      have hkp : (k : Int) < (ev.length : Int) := by omega
      have hx0 : (0 : Int) ≤ (x : Int) := by omega
      have hx1 : (x : Int) < (ts.length : Int) := by omega
      have hsk : ((x : Int) == -1) = false := by first | (simp; done) | (simp; omega)
      have lb0 : b0 < w.heap.size := World.block_lt_of_cell? _ _ (hc0 x hx)
      have lb2 : b2 < w.heap.size := World.block_lt_of_cell? _ _ (hc2 k (by omega))
      have lb3 : b3 < w.heap.size := World.block_lt_of_cell? _ _ (hc3 k (by omega))
      have HA : Hid (∀ wx, wr.grownBy wx none → Calls Try.prog 37 #[.pointer (some ⟨H, 0, none⟩), .int .i64 z, .int .i64 (r : Int), .string s] wx fun e w' => e = .returned (.tuple #[]) ∧ Hid ((∃ g c', Hs w' H base Bm (k + 1) (.slice (some ⟨w.heap.size, 0, none⟩) ts.length ts.length) (.slice (some ⟨g, 0, none⟩) (k + 1) c') (evTo ts ev ac ss (k + 1)) (cmTo ts ev ac ss (k + 1))) ∧ w.grownBy w' none) ∧ w'.cell? ⟨b0, o0 + x, none⟩ = some (.int .i64 z) ∧ w'.cell? ⟨b2, o2 + k, none⟩ = some (.int .u8 (t : Int)) ∧ w'.cell? ⟨b3, o3 + k, none⟩ = some (.string s)) := by
        intro wx g
        have hh := hS.out.grown g
        have e := evTo_length ts ev ac ss k
        have P := zzadd_any H base Bm k (.slice (some ⟨w.heap.size, 0, none⟩) ts.length ts.length) a c (evTo ts ev ac ss k) (cmTo ts ev ac ss k) z r s wx (by rw [e]; exact hh) hr4 hwf (by omega) (by omega)
        rw [e] at P
        refine P.mono ?_
        rintro e1 w' ⟨rfl, g', c', hH, hK⟩
        have hlo : ∀ k', k' < base → (Value.slice a k c).ownBlock ≠ some k' := fun k' hk' e => by
          have := (hh.own.lt _ e).1
          omega
        have gg : w.grownBy wx none := grownBy_trans hg g (.inl rfl)
        have blk : ∀ b, b < w.heap.size → w'.heap[b]? = w.heap[b]? := fun b hb => (hK.block b (Nat.lt_of_lt_of_le hb gg.size) (by
          rintro (h | h | h)
          · omega
          · omega
          · exact hlo b (by omega) h)).trans (gg.block b hb (by simp))
        refine ⟨rfl, ⟨⟨g', c', ?_⟩, hK.os.trans gg.os, hK.tape.trans gg.tape, hK.output.trans gg.output, Nat.le_trans gg.size hK.size, fun b hb _ => blk b hb⟩, ?_, ?_, ?_⟩
        · rw [e] at hH
          rw [evTo_succ, HE.out]
          have e2 : cmTo ts ev ac ss (k + 1) = fun y => if y = z ∧ 2 ≤ r then decide (r = 2) else cmTo ts ev ac ss k y := by
            funext y
            simp only [cmTo, HE.out]
          rw [e2]
          exact hH
        · exact (World.cell?_of_block (blk b0 lb0)).trans hz0
        · exact (World.cell?_of_block (blk b2 lb2)).trans ha0
        · exact (World.cell?_of_block (blk b3 lb3)).trans hs0
      clear hc0 hc1 hc2 hc3 hu1 hu2 hz
      rw [hac, hss] at *
      go_upto_region 7 with (go_at_call 15; refine (HT _ (by assumption)).mono ?_; rintro e w' ⟨rfl, hw⟩; have hw := hw.symm; subst hw)
      clear hz0 ha0 hs0
      have hwr : IntKind.u8.wrap (r : Int) = (r : Int) := IntWalk.u8_in _ (by omega)
      have hwr2 : IntKind.i64.wrap (r : Int) = (r : Int) := IntWalk.i64_in _ (by omega)
      go_region_held3 (fun w' => w'.cell? ⟨b0, o0 + x, none⟩ = some (.int .i64 z) ∧ w'.cell? ⟨b2, o2 + k, none⟩ = some (.int .u8 (t : Int)) ∧ w'.cell? ⟨b3, o3 + k, none⟩ = some (.string s)) (refine ⟨?_, ?_, ?_⟩ <;> repeat (first | with_reducible assumption | with_reducible refine cell_one ?_ _ | with_reducible refine cell_drew ?_))
        (first
          | (go_at_call 37; refine (HA.out _ (by repeat (first | with_reducible exact World.grownBy.refl _ _ | with_reducible refine grown_drew ?_))).mono ?_; rintro e w' ⟨rfl, hO, y0, y1, y2⟩))
      go_wp2
      go_roundg (ev.length - (k + 1))
      case measure => omega
      case rel =>
        obtain ⟨⟨g', c', hH⟩, gw⟩ := hO.out
        exact ⟨k + 1, some ⟨g', 0, none⟩, c', by omega, rfl, by go_num, hH, gw⟩
    · go_wp2
      go_ret
      have : k = ev.length := by omega
      subst this
      exact ⟨H, base, Bm, _, a, c, rfl, hS.out, by omega, by omega, hg⟩
end Go.Proofs.Qxb6600752a
