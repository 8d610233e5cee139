import Derived.Test.Qxb6600752aRep2
namespace Go.Proofs.Qxb6600752a
open Go.RowKit Go.Maps

set_option maxRecDepth 8000 in
set_option maxHeartbeats 4000000 in
theorem replay_any (aq a0 a1 a2 a3 a5 : Option Addr) (cq n c0 c1 c2 c3 c5 : Nat) (sq ev ac : List Nat) (ss : List ByteArray) (cm : List Bool) (w : World)
    (hq : sq.length ≤ 4096) (hm : ev.length ≤ 4096) (hn : n ≤ 1048576) (hac : ac.length = ev.length) (hss : ss.length = ev.length) (hcm : cm.length = n) (hn0 : 0 < ev.length → 0 < n) (hlt : ∀ i ∈ sq, i < ev.length)
    (hQ : NRow w aq sq) (h1 : URow w a1 ev) (h2 : URow w a2 ac) (h3 : SRow w a3 ss) (h5 : BRow w a5 cm) (hu1 : ∀ u ∈ ev, u < 256) (hu2 : ∀ u ∈ ac, u < 256) (hs : ∀ s ∈ ss, s.size ≤ maxLen) :
    Calls Try.prog 24 #[.slice aq sq.length cq, .slice a0 n c0, .slice a1 ev.length c1, .slice a2 ac.length c2, .slice a3 ss.length c3, .slice a5 cm.length c5] w fun e w' => ∃ B1, e = .returned (.tuple #[.slice (some ⟨w.heap.size, 0, none⟩) ev.length ev.length, .map (some B1)]) ∧ w.heap.size ≤ B1 ∧
      w'.ownsRow w.heap.size 58 2 (.slice (some ⟨w.heap.size, 0, none⟩) ev.length ev.length) ev.length (Pl (rRun n ev ac ss cm sq).src) ∧ OwnsM w' 9 B1 sq.length (lastF (rRun n ev ac ss cm sq).last) ∧ w.grownBy w' none := by
  obtain ⟨i0, hi, hz0, hz1, hz2⟩ := info_parts info58
  have hmm := @run_makeMap Try.prog
  go_enter Try.func24, Try.ntmps24
  go_wp2_with (at_make; refine wpList_make_full _ rfl _ _ 53 rfl w.heap.size 58 i0 (.agg #[.int .i64 0, .int .i64 0]) 2 Try.underlying53 hi hz0 hz1 _ _ _ _ ev.length rfl rfl rfl rfl ?b1 ?b2 ?b3 ?_)
  case b1 => rw [hz2]; omega
  case b2 => unfold maxLen; omega
  case b3 => exact Nat.le_refl _
  intro w0 hown0 hgrow0
  go_wp2
  obtain ⟨W0, hW0⟩ : ∃ W0, W0 = ((w0.alloc (Obj.map #[] 0)).alloc (Obj.map #[] 0)) := ⟨_, rfl⟩
  rw [← hW0]
  have g0 : w.grownBy W0 none := by rw [hW0]; exact grown_alloc (grown_alloc hgrow0 _) _
  have M1 : OwnsM W0 9 w0.heap.size 0 (lastF (rInit ev.length).last) := by
    rw [hW0]
    have e : lastF (rInit ev.length).last = fun _ => none := by
      funext v
      unfold lastF rInit
      cases v <;> rfl
    rw [e]
    exact (OwnsM.made w0 9).kept (World.grownBy_alloc _ _ none) (by simp)
  have M2 : OwnsM W0 87 (w0.heap.size + 1) 0 (fun _ => none) := by
    have := OwnsM.made (w0.alloc (Obj.map #[] 0)) 87
    rw [hW0]
    simpa using this
  have o0 : W0.ownsRow w.heap.size 58 2 (.slice (some ⟨w.heap.size, 0, none⟩) ev.length ev.length) ev.length (Pl (rInit ev.length).src) := by
    rw [hW0]
    have : (madeCells #[Value.int IntKind.i64 0, Value.int IntKind.i64 0] (ev.length * 2)).toList = Pl (rInit ev.length).src := pl_zero ev.length
    rw [this] at hown0
    exact owns_grown hown0 (grown_alloc (World.grownBy_alloc _ _ none) _)
  have b01 : w.heap.size < w0.heap.size := (hown0.lt _ rfl).2
  clear hW0 hown0 hgrow0
  obtain ⟨B, hB⟩ : ∃ B, B = w.heap.size := ⟨_, rfl⟩
  rw [← hB] at b01 o0 ⊢
  have HBw : Hid (B = w.heap.size) := hB
  clear hB
  obtain ⟨b12, bB2⟩ : w0.heap.size < w0.heap.size + 1 ∧ B ≠ w0.heap.size + 1 := ⟨by omega, by omega⟩
  have bB1 : B ≠ w0.heap.size := by omega
  generalize w0.heap.size + 1 = B2 at *
  generalize w0.heap.size = B1 at *
  go_loopg [17] sq.length (fun g si wr => ∃ (k : Nat) (S : RS) (f : Value → Option Value), k ≤ sq.length ∧ g = sq.length - k ∧ si = .int .i64 k ∧ wr.ownsRow B 58 2 (.slice (some ⟨B, 0, none⟩) ev.length ev.length) ev.length (Pl S.src) ∧ Hid (S = (sq.take k).foldl (rStep n ev ac ss cm) (rInit ev.length) ∧ S.src.length = ev.length ∧ (∀ x s, S.cnt x s ≤ k) ∧ Cnt S.cnt f ∧ OwnsM wr 9 B1 k (lastF S.last) ∧ OwnsM wr 87 B2 k f) ∧ w.grownBy wr none)
  case atStart =>
    refine ⟨0, rInit ev.length, fun _ => none, Nat.zero_le _, rfl, rfl, o0, ⟨rfl, by simp [rInit], fun x s => Nat.le_refl _, fun x s => rfl, M1, M2⟩, g0⟩
  case round =>
    obtain ⟨k, S, f, hk, hgk, rfl, hown, hS, hg⟩ := hrel
    by_cases hkl : k < sq.length
    · rcases hQ with h0 | ⟨bq, oq, rfl, hcq⟩
      · omega
      have hil := hlt _ (List.getElem_mem hkl)
      have cq0 := grownBy_cell hg (hcq k hkl)
      have HP : Hid ((sq.take (k + 1)).foldl (rStep n ev ac ss cm) (rInit ev.length) = rStep n ev ac ss cm ((sq.take k).foldl (rStep n ev ac ss cm) (rInit ev.length)) sq[k]) := by
        show _ = _
        rw [List.take_succ_eq_append_getElem hkl, List.foldl_append]
        rfl
      generalize sq[k] = i at hil cq0 HP
      rcases h1 with h0 | ⟨b1, o1, rfl, hc1⟩
      · omega
      rcases h2 with h0 | ⟨b2, o2, rfl, hc2⟩
      · omega
      rcases h3 with h0 | ⟨b3, o3, rfl, hc3⟩
      · omega
      have hnn := hn0 (by omega)
      rcases h5 with h0 | ⟨b5, o5, rfl, hc5⟩
      · omega
      have ce := grownBy_cell hg (hc1 i hil)
      have ca := grownBy_cell hg (hc2 i (by omega))
      have cs := grownBy_cell hg (hc3 i (by omega))
      have hb1 := hu1 _ (List.getElem_mem hil)
      have hb2 := hu2 _ (List.getElem_mem (show i < ac.length by omega))
      have hsz := hs _ (List.getElem_mem (show i < ss.length by omega))
      have HR : Hid (∀ S : RS, rStep n ev ac ss cm S i = if cm.getD (ev[i] % n) false = true then if ac[i] % 4 = 0 then S.get i ss[i] else if ac[i] % 4 = 1 then S.put (ev[i] % n) ss[i] else S else S) := by
        intro S
        simp only [rStep, List.getD_eq_getElem?_getD, List.getElem?_eq_getElem hil, List.getElem?_eq_getElem (show i < ac.length by omega), List.getElem?_eq_getElem (show i < ss.length by omega), Option.getD_some]
      have HT := fun (wx : World) (h : wx.cell? ⟨b1, o1 + i, none⟩ = some (.int .u8 (ev[i] : Int))) => txn_any a0 n c0 b1 o1 ev.length c1 i ev[i] wx h hb1 hil (by omega) hnn hn
      have hx : ev[i] % n < n := Nat.mod_lt _ hnn
      generalize ev[i] = u at *
      generalize u % n = x at *
      generalize ac[i] = t at *
      generalize ss[i] = s at *
      have cb := grownBy_cell hg (hc5 x (by omega))
      have hcg : cm.getD x false = cm[x]'(by omega) := by simp [show x < cm.length by omega]
      rw [hcg] at HR
      clear hcg
      generalize cm[x]'(by omega) = cx at cb HR
      have hr : ((t : Int)).tmod 4 = ((t % 4 : Nat) : Int) := by rw [Int.tmod_eq_emod_of_nonneg (by omega)]; omega
      have hr4 : t % 4 < 4 := Nat.mod_lt _ (by omega)
      generalize t % 4 = r at *
      have hki : (0 : Int) ≤ (k : Int) := by omega
      have hkp : (k : Int) < (sq.length : Int) := by omega
      have hi0 : (0 : Int) ≤ (i : Int) := by omega
      have hi1 : (i : Int) < (ev.length : Int) := by omega
      have hx0 : (0 : Int) ≤ (x : Int) := by omega
      have hx1 : (x : Int) < (n : Int) := by omega
      have hlb : b3 < w.heap.size := World.block_lt_of_cell? _ _ (hc3 i (by omega))
      clear hc1 hc2 hc3 hc5 hcq hu1 hu2 hs hlt M1 M2 o0 g0 hmm hi hz0 hz1 hz2
      rw [hac, hss, hcm] at *
      have hcase : 1 < r ∨ (r ≤ 1 ∧ cx = false) ∨ (r = 1 ∧ cx = true) ∨ (r = 0 ∧ cx = true) := by
        cases cx
        · by_cases h : 1 < r
          · exact .inl h
          · exact .inr (.inl ⟨by omega, rfl⟩)
        · by_cases h : 1 < r
          · exact .inl h
          · have : r = 1 ∨ r = 0 := by omega
            rcases this with h | h
            · exact .inr (.inr (.inl ⟨h, rfl⟩))
            · exact .inr (.inr (.inr ⟨h, rfl⟩))
      rcases hcase with hgt | ⟨hle, rfl⟩ | ⟨rfl, rfl⟩ | ⟨rfl, rfl⟩
      · have hgt2 : (1 : Int) < (r : Int) := by omega
        have HG : Hid (1 < r) := hgt
        clear hgt hr4
        go_wp2_with (go_at_call 15; refine (HT _ (by assumption)).mono ?_; rintro e w' ⟨rfl, hw⟩; have hw := hw.symm; subst hw)
        go_roundg (sq.length - (k + 1))
        case measure => omega
        case rel =>
          obtain ⟨e1, e2, e3, e4, e5, e6⟩ := hS.out
          have hgt : 1 < r := HG.out
          refine ⟨k + 1, S, f, by omega, rfl, by go_num, hown, ⟨?_, e2, fun x s => Nat.le_succ_of_le (e3 x s), e4, e5.mono (by omega), e6.mono (by omega)⟩, hg⟩
          rw [HP.out, ← e1, HR.out S, if_neg (show ¬ r = 0 by omega), if_neg (show ¬ r = 1 by omega)]
          simp
      · have hle2 : ¬ (1 : Int) < (r : Int) := by omega
        clear hle hr4
        go_wp2_with (go_at_call 15; refine (HT _ (by assumption)).mono ?_; rintro e w' ⟨rfl, hw⟩; have hw := hw.symm; subst hw)
        go_roundg (sq.length - (k + 1))
        case measure => omega
        case rel =>
          obtain ⟨e1, e2, e3, e4, e5, e6⟩ := hS.out
          refine ⟨k + 1, S, f, by omega, rfl, by go_num, hown, ⟨?_, e2, fun x s => Nat.le_succ_of_le (e3 x s), e4, e5.mono (by omega), e6.mono (by omega)⟩, hg⟩
          rw [HP.out, ← e1, HR.out S]
          simp
      · clear hr4
        go_upto_region 13 with (go_at_call 15; refine (HT _ (by assumption)).mono ?_; rintro e w' ⟨rfl, hw⟩; have hw := hw.symm; subst hw)
        obtain ⟨W1, hW1⟩ : ∃ W1, W1 = wr.alloc (Obj.cells #[Value.int IntKind.i64 (x : Int), Value.string s] 87) := ⟨_, rfl⟩
        rw [← hW1]
        have g1 : wr.grownBy W1 none := by rw [hW1]; exact World.grownBy_alloc _ _ _
        have kb0 : W1.cell? ⟨wr.heap.size, 0, none⟩ = some (.int .i64 (x : Int)) := by rw [hW1]; simp [go_sem]
        have kb1 : W1.cell? ⟨wr.heap.size, 1, none⟩ = some (.string s) := by rw [hW1]; simp [go_sem]
        have cs1 := grownBy_cell g1 cs
        clear hW1
        obtain ⟨e1, e2, e3, e4, e5, e6⟩ := hS.out
        have hlt2 : B2 < wr.heap.size := e6.lt
        have hb3B : b3 < B := by have := HBw.out; omega
        obtain ⟨kl, hkl⟩ := key87 (wf_i64 (x := x) (by omega)) hsz
        obtain ⟨st, w2, w3, w4, r1, r2, r3, r4, r5, r6, gg2, gg3, gg4, hfin⟩ := put_runs law87 Try.underlying85 Try.underlying54 hkl hsz (by omega) (show B1 ≠ B2 by omega) e4 (e5.kept g1 (by simp)) (e6.kept g1 (by simp))
        have hcn := e3 x s
        have HC : Hid (∀ y t, (S.put x s).cnt y t ≤ k + 1) := by
          intro y t
          simp only [RS.put]
          split
          · omega
          · exact Nat.le_succ_of_le (e3 y t)
        generalize S.cnt x s = cv at r1 r2 r3 r4 r5 r6 hcn
        unfold goInt at r2 r4
        have hwc : IntKind.i64.wrap ((cv : Int) + 1) = (cv : Int) + 1 := IntWalk.i64_in _ (by omega)
        have HF : Hid _ := hfin
        have kb2 := gg2.cell kb0 (by simp; omega)
        have kb3 := gg2.cell kb1 (by simp; omega)
        have kb4 := gg3.cell kb0 (by simp; omega)
        have kb5 := gg3.cell kb1 (by simp; omega)
        have cs2 := gg3.cell cs1 (by simp; omega)
        have HE : Hid (_ ∧ _) := ⟨e1, e2⟩
        have HG : Hid (_ ∧ _ ∧ _) := ⟨g1, gg3, gg4⟩
        clear e1 e2 e3 e4 e5 e6 hfin gg2 gg3 gg4 g1 hkl hS
        go_region
        go_upto_region 14 with fail
        go_region
        go_wp2
        go_roundg (sq.length - (k + 1))
        case measure => omega
        case rel =>
          obtain ⟨f', q1, q2, q3⟩ := HF.out
          obtain ⟨g1, gg3, gg4⟩ := HG.out
          have hB := HBw.out
          refine ⟨k + 1, S.put x s, f', by omega, rfl, by go_num, ((owns_grown hown g1).kept gg3 (by simp [Value.ownBlock]; omega)).kept gg4 (by simp [Value.ownBlock]; omega), ⟨?_, HE.out.2, HC.out, q1, q2, q3⟩, grownBy_trans (grownBy_trans (grownBy_trans hg g1 (.inl rfl)) gg3 (.inr fun j h => by cases h; omega)) gg4 (.inr fun j h => by cases h; omega)⟩
          rw [HP.out, ← HE.out.1, HR.out S]
          simp
      · clear hr4
        go_upto_region 15 with (go_at_call 15; refine (HT _ (by assumption)).mono ?_; rintro e w' ⟨rfl, hw⟩; have hw := hw.symm; subst hw)
        obtain ⟨e1, e2, e3, e4, e5, e6⟩ := hS.out
        have hlk := e5.lookOk keyed9 Try.underlying54 (zero58 wr) (key9 hsz)
        have hBl : B < wr.heap.size := (hown.lt _ rfl).2
        have hfz0 := hown.frozenAt (i * 2)
        have hfz1 := hown.frozenAt (i * 2 + 1)
        have hd0 := hown.cellAt (i * 2) (by omega)
        have hd1 := hown.cellAt (i * 2 + 1) (by omega)
        have hpa := Pl_at S.src i (by omega)
        rw [hpa.1] at hd0
        rw [hpa.2] at hd1
        have HE : Hid _ := hS.out
        have HO : Hid (∀ wx, wr.grownBy wx none → wx.ownsRow B 58 2 (.slice (some ⟨B, 0, none⟩) ev.length ev.length) ev.length (Pl S.src)) := fun wx g => owns_grown hown g
        clear e1 e3 e4 e5 e6 hpa hS
        generalize (S.src.getD i (0, 0)).1 = d0 at hd0
        generalize (S.src.getD i (0, 0)).2 = d1 at hd1
        cases hl : S.last s with
        | none =>
          rw [lastF_none hl] at hlk
          have HL : Hid (S.last s = none) := hl
          clear hl hown
          go_wp2
          go_roundg (sq.length - (k + 1))
          case measure => omega
          case rel =>
            obtain ⟨e1, e2, e3, e4, e5, e6⟩ := HE.out
            have hB := HBw.out
            have P := pstored (HO.out wr (World.grownBy.refl _ _)) i (-1) 0 (by omega)
            have hsrc : (S.get i s).src = S.src.set i ((-1), 0) := by simp only [RS.get, HL.out, widOf]
            rw [← hsrc] at P
            refine ⟨k + 1, S.get i s, f, by omega, rfl, by go_num, owns_grown P.1 (World.grownBy_alloc _ _ none), ⟨?_, by rw [hsrc, List.length_set]; exact e2, fun x s => Nat.le_succ_of_le (e3 x s), e4, ((e5.mono (Nat.le_succ k)).kept P.2 (by simp; omega)).kept (World.grownBy_alloc _ _ none) (by simp), ((e6.mono (Nat.le_succ k)).kept P.2 (by simp; omega)).kept (World.grownBy_alloc _ _ none) (by simp)⟩, grown_alloc (grownBy_trans hg P.2 (.inr fun j h => by cases h; omega)) _⟩
            rw [HP.out, ← e1, HR.out S]
            simp
        | some p =>
          rw [lastF_some hl] at hlk
          have HL : Hid (S.last s = some p) := hl
          clear hl hown
          go_wp2
          go_roundg (sq.length - (k + 1))
          case measure => omega
          case rel =>
            obtain ⟨e1, e2, e3, e4, e5, e6⟩ := HE.out
            have hB := HBw.out
            have P := pstored (HO.out wr (World.grownBy.refl _ _)) i (p.1 : Int) (p.2 : Int) (by omega)
            have hsrc : (S.get i s).src = S.src.set i ((p.1 : Int), (p.2 : Int)) := by simp only [RS.get, HL.out, widOf]
            rw [← hsrc] at P
            refine ⟨k + 1, S.get i s, f, by omega, rfl, by go_num, owns_grown P.1 (World.grownBy_alloc _ _ none), ⟨?_, by rw [hsrc, List.length_set]; exact e2, fun x s => Nat.le_succ_of_le (e3 x s), e4, ((e5.mono (Nat.le_succ k)).kept P.2 (by simp; omega)).kept (World.grownBy_alloc _ _ none) (by simp), ((e6.mono (Nat.le_succ k)).kept P.2 (by simp; omega)).kept (World.grownBy_alloc _ _ none) (by simp)⟩, grown_alloc (grownBy_trans hg P.2 (.inr fun j h => by cases h; omega)) _⟩
            rw [HP.out, ← e1, HR.out S]
            simp
    · go_wp2
      go_ret2
      have : k = sq.length := by omega
      subst this
      obtain ⟨e1, _, _, _, m1, _⟩ := hS.out
      rw [List.take_length] at e1
      subst e1
      have hB := HBw.out
      subst hB
      exact ⟨_, rfl, by omega, hown, m1, hg⟩
end Go.Proofs.Qxb6600752a
