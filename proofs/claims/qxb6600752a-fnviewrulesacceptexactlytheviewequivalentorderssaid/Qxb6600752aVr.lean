import Derived.Test.Qxb6600752aVf
import Derived.Deep.CutBlock
import Derived.Deep.QuietTactic
import Derived.BigQuiet
namespace Go.Proofs.Qxb6600752a
open Go.RowKit Go.Maps

theorem Rw.rebase {wr : World} {R gb gt bb n : Nat} {bf : List Nat} (h : Rw wr R gb gt bb n bf (List.replicate n (.slice none 0 0)) (List.replicate n [])) {b2 : Nat} (h1 : bb ≤ b2) (h2 : b2 ≤ wr.heap.size) : Rw wr R gb gt b2 n bf (List.replicate n (.slice none 0 0)) (List.replicate n []) := by
  have a1 := h.e1
  have a2 := h.e2
  have a3 := h.e3
  refine ⟨h.r0, h.r1, h.bo, h.tr, fun k hk => ⟨.slice none 0 0, by simp [hk], ?_⟩, h.ap, h.lb, h.lv, h.lt, h.d1, h.d2, h.d3, by omega, by omega, by omega, h2⟩
  have : (List.replicate n ([] : List (Nat × Nat))).getD k [] = [] := by simp [List.getD, hk]
  rw [this]
  exact World.ownsRow_nil _ _ _ _
theorem row_form {w : World} {base : Nat} {e : TypeId} {size : Nat} {v : Value} {n : Nat} {xs : List Value} (h : w.ownsRow base e size v n xs) : ∃ a c, v = .slice a n c := by
  rcases h.2 with ⟨rfl, h0⟩ | ⟨g, cap, cur, rfl, _⟩
  · exact ⟨none, 0, by rw [h0]⟩
  · exact ⟨_, _, rfl⟩
theorem kp_grow {w W wr : World} {S : Nat → Prop} (g : w.grownBy W none) (K : Kp W wr S) (hS : ∀ b, S b → w.heap.size ≤ b) : w.grownBy wr none :=
  ⟨K.os.trans g.os, K.tape.trans g.tape, K.output.trans g.output, Nat.le_trans g.size K.size, fun b hb _ => (K.block b (Nat.lt_of_lt_of_le hb g.size) (fun h => by have := hS b h; omega)).trans (g.block b hb (by simp))⟩

/-- What viewRulesOf answers. -/
def VrOut (w : World) (ts : List Int) (es : List (Int × Nat × ByteArray)) (cm : Int → Bool) (xi : Nat → Nat) (e : Ending) (w' : World) : Prop :=
  w.grownBy w' none ∧ (((vTo es cm xi es.length = none ∨ ∃ S, vTo es cm xi es.length = some S ∧ ∃ r ∈ S.rd, ¬ rdOk S r) ∧ e = .returned (.tuple #[.pointer none, .bool false])) ∨
    ∃ S bf left R gb gt bb vs, vTo es cm xi es.length = some S ∧ (∀ r ∈ S.rd, rdOk S r) ∧ Good S ts.length bf left ∧ (∀ kl, left kl = false) ∧ Vok S ts.length es.length ∧ e = .returned (.tuple #[.pointer (some ⟨R, 0, none⟩), .bool true]) ∧
      Rw w' R gb gt bb ts.length (rdAll S ts.length bf (List.replicate ts.length []) S.rd).1 vs (rdAll S ts.length bf (List.replicate ts.length []) S.rd).2)

set_option maxRecDepth 8000 in
set_option maxHeartbeats 40000000 in
theorem vr_any (H base Bm : Nat) (vt : Value) (ae : Option Addr) (ce gt : Nat) (ct : Nat) (ts : List Int) (es : List (Int × Nat × ByteArray)) (cm : Int → Bool) (w : World) (hS : Hs w H base Bm es.length vt (.slice ae es.length ce) es cm) (hT : IRow w (some ⟨gt, 0, none⟩) ts)
    (hn : ts.length ≤ 64) (hm : es.length ≤ 4096) (hd : ts.Nodup) (hz : ∀ z ∈ ts, (Lit.int .i64 z).wf = true) (xi : Nat → Nat) (hE : ∀ i e, es[i]? = some e → xi i < ts.length ∧ e.1 = ts.getD (xi i) 0 ∧ e.2.1 < 4 ∧ e.2.2.size ≤ maxLen) :
    Calls Try.prog 38 #[.pointer (some ⟨H, 0, none⟩), .slice (some ⟨gt, 0, none⟩) ts.length ct] w (VrOut w ts es cm xi) := by
  have hmm0 := @run_makeMap Try.prog
  have hmm1 := run_makeMapN 67 44 3 Try.underlying67 (ts.length : Int)
  go_enter Try.func38, Try.ntmps38
  go_upto_block 0 with fail
  go_cut [] from 31 (fun wx => ∃ f, Hid (OwnsM wx 44 w.heap.size ts.length f ∧ (∀ x, x < ts.length → f (.int .i64 (ts.getD x 0)) = some (.int .i64 (x : Int))) ∧ w.grownBy wx none))
  case first =>
    as_aux_lemma =>
      go_wp2_with fail
      go_loopg [33] ts.length (fun g si wr => ∃ (k : Nat) (f : Value → Option Value), k ≤ ts.length ∧ g = ts.length - k ∧ si = .int .i64 k ∧ Hid (OwnsM wr 44 w.heap.size k f ∧ (∀ x, x < k → f (.int .i64 (ts.getD x 0)) = some (.int .i64 (x : Int)))) ∧ w.grownBy wr none)
      case atStart => exact ⟨0, fun _ => none, Nat.zero_le _, rfl, rfl, ⟨OwnsM.made w 44, fun x hx => by omega⟩, World.grownBy_alloc _ _ _⟩
      case round =>
        obtain ⟨k, f, hk, hgk, rfl, hM, hg⟩ := hrel
        by_cases hlt : k < ts.length
        · rcases hT with h | ⟨b, o, he, hc⟩
          · omega
          cases he
          have cz := grownBy_cell hg (hc k hlt)
          rw [Nat.zero_add] at cz
          have hwf := hz _ (List.getElem_mem hlt)
          obtain ⟨w2, hrun, g2, hf⟩ := hM.out.1.store keyed44 Try.underlying67 (by unfold maxLen; omega) (.int .i64 (k : Int)) (key44 hwf)
          have HN : Hid (∀ x, x < k + 1 → updF f (.int .i64 ts[k]) (.int .i64 (k : Int)) (.int .i64 (ts.getD x 0)) = some (.int .i64 (x : Int))) := by
            intro x hx
            by_cases e : x = k
            · subst e
              have : ts.getD x 0 = ts[x] := by simp [hlt]
              rw [this, updF_same]
            · have hxk : x < ts.length := by omega
              have : ts.getD x 0 = ts[x] := by simp [hxk]
              rw [updF_other]
              · exact hM.out.2 x (by omega)
              · rw [this]
                intro e2
                have e3 : ts[x] = ts[k] := by simpa using e2
                exact List.pairwise_iff_getElem.1 hd x k hxk hlt (by omega) e3
          have HF : Hid _ := hf (updF f (.int .i64 ts[k]) (.int .i64 (k : Int))) (updF_same _ _ _) (fun key' _ _ hne => updF_other _ _ hne)
          generalize ts[k] = z at *
          have hki : (0 : Int) ≤ (k : Int) := by omega
          have hkp : (k : Int) < (ts.length : Int) := by omega
          clear hc hf hz
          go_wp2
          go_roundg (ts.length - (k + 1))
          case measure => omega
          case rel => exact ⟨k + 1, _, by omega, rfl, by go_num, ⟨HF.out, HN.out⟩, grownBy_trans hg g2 (.inr fun j h => by cases h; exact Nat.le_refl _)⟩
        · go_wp2
          go_meet
          have : k = ts.length := by omega
          subst this
          exact ⟨f, hM.out.1, hM.out.2, hg⟩
  case rest =>
    as_aux_lemma =>
      obtain ⟨fp, hP⟩ := hcut
      have HS : Hid (Hs wc H base Bm es.length vt (.slice ae es.length ce) es cm) := hS.grown hP.out.2.2
      have hbw : base ≤ w.heap.size := hS.hb
      have hgeA : ∀ g, (Value.slice ae es.length ce).ownBlock = some g → g < w.heap.size := fun g e => (hS.own.lt _ e).2
      clear hS
      go_upto_region 12 with fail
      obtain ⟨W4, hW4⟩ : ∃ W4, W4 = ((((wc.alloc (Obj.map #[] 0)).alloc (Obj.map #[] 0)).alloc (Obj.map #[] 0)).alloc (Obj.map #[] 0)) := ⟨_, rfl⟩
      rw [← hW4]
      have g4 : wc.grownBy W4 none := by rw [hW4]; exact grown_alloc (grown_alloc (grown_alloc (World.grownBy_alloc _ _ none) _) _) _
      have HM : Hid (OwnsM W4 113 wc.heap.size 0 (fun _ => none) ∧ OwnsM W4 9 (wc.heap.size + 1) 0 (fun _ => none) ∧ OwnsM W4 9 (wc.heap.size + 1 + 1) 0 (fun _ => none) ∧ OwnsM W4 9 (wc.heap.size + 1 + 1 + 1) 0 (fun _ => none)) := by
        rw [hW4]
        have e1 := OwnsM.made wc 113
        have e2 := OwnsM.made (wc.alloc (Obj.map #[] 0)) 9
        have e3 := OwnsM.made ((wc.alloc (Obj.map #[] 0)).alloc (Obj.map #[] 0)) 9
        have e4 := OwnsM.made (((wc.alloc (Obj.map #[] 0)).alloc (Obj.map #[] 0)).alloc (Obj.map #[] 0)) 9
        refine ⟨e1.kept (grown_alloc (grown_alloc (World.grownBy_alloc _ _ none) _) _) (by simp), ?_, ?_, ?_⟩
        · simpa using e2.kept (grown_alloc (World.grownBy_alloc _ _ none) _) (by simp)
        · simpa using e3.kept (World.grownBy_alloc _ _ none) (by simp)
        · simpa using e4
      have HS4 : Hid (Hs W4 H base Bm es.length vt (.slice ae es.length ce) es cm) := HS.out.grown g4
      have HP4 : Hid (OwnsM W4 44 w.heap.size ts.length fp ∧ (∀ x, x < ts.length → fp (.int .i64 (ts.getD x 0)) = some (.int .i64 (x : Int))) ∧ w.grownBy W4 none) := ⟨hP.out.1.kept g4 (by simp), hP.out.2.1, grownBy_trans hP.out.2.2 g4 (.inl rfl)⟩
      obtain ⟨q0, q1, q2, q3, q4⟩ : w.heap.size < wc.heap.size ∧ wc.heap.size < wc.heap.size + 1 ∧ wc.heap.size + 1 < wc.heap.size + 1 + 1 ∧ wc.heap.size + 1 + 1 < wc.heap.size + 1 + 1 + 1 ∧ wc.heap.size + 1 + 1 + 1 < W4.heap.size := ⟨by have := hP.out.1.lt; omega, by omega, by omega, by omega, by rw [hW4]; simp⟩
      have c1 := HS4.out.c1
      clear hW4 HS hP g4
      generalize wc.heap.size + 1 + 1 + 1 = B4 at *
      generalize wc.heap.size + 1 + 1 = B3 at *
      generalize wc.heap.size + 1 = B2 at *
      generalize wc.heap.size = B1 at *
      obtain ⟨B0, hB0⟩ : ∃ B0, B0 = w.heap.size := ⟨_, rfl⟩
      rw [← hB0] at q0 HP4 hbw hgeA ⊢
      have HB0 : Hid (B0 = w.heap.size) := hB0
      clear hB0
      go_upto_block 2 with fail
      obtain ⟨i0, hi, hz0, hz1, hz2⟩ := info_parts info118
      have HGE : Hid (∀ g, (Value.slice ae es.length ce).ownBlock = some g → g < B0) := hgeA
      have hHB : H < base := HS4.out.hH
      have hBmB : Bm < base := HS4.out.hB
      clear hgeA c1
      go_cut [13] from 51 (fun sv wx => ∃ S a c, sv = .slice a S.rd.length c ∧ Hid (vTo es cm xi es.length = some S ∧ Vw W4 wx B1 B2 B3 B4 W4.heap.size ts.length es.length sv S))
      case first =>
        as_aux_lemma =>
          go_wp2_with fail
          go_loopg [13, 51] es.length (fun g sv si wr => ∃ (k : Nat) (S : VS) (a : Option Addr) (c : Nat), k ≤ es.length ∧ g = es.length - k ∧ si = .int .i64 k ∧ sv = .slice a S.rd.length c ∧ Hid (vTo es cm xi k = some S ∧ Vw W4 wr B1 B2 B3 B4 W4.heap.size ts.length k sv S))
          case atStart =>
            obtain ⟨m1, m2, m3, m4⟩ := HM.out
            exact ⟨0, vInit, none, 0, Nat.zero_le _, rfl, rfl, rfl, rfl, ⟨⟨_, fun x s => rfl, m1⟩, by
              have e : lastF vInit.rs.last = fun _ => none := by
                funext v
                unfold lastF vInit rInit
                cases v <;> rfl
              rw [e]
              exact m2, ⟨_, fun s => rfl, m3⟩, ⟨_, fun s => rfl, m4⟩, World.ownsRow_nil _ _ _ _, Kp.refl _ _, vInit_ok _, Nat.le_refl _, q1, q2, q3, q4, rfl⟩⟩
          case round =>
            obtain ⟨k, S, a, c, hk, hgk, rfl, rfl, hV⟩ := hrel
            by_cases hlt : k < es.length
            · obtain ⟨e, he⟩ : ∃ e, es[k]? = some e := ⟨_, List.getElem?_eq_getElem hlt⟩
              obtain ⟨hx, hz1', ha4, hsz⟩ := hE k e he
              have HT : Hid (∀ S, vTo es cm xi k = some S → vTo es cm xi (k + 1) = vStep S (cm e.1) (xi k) e.2.1 e.2.2) := by
                intro S hS
                simp only [vTo, hS, he, Option.bind_some]
              have hev := El_at es k e he
              have hwfz : (Lit.int .i64 e.1).wf = true := by
                rw [hz1']
                have : ts.getD (xi k) 0 = ts[xi k] := by simp [hx]
                rw [this]
                exact hz _ (List.getElem_mem hx)
              have hpl := HP4.out.2.1 (xi k) hx
              rw [← hz1'] at hpl
              clear hz1'
              obtain ⟨z, ac, s⟩ := e
              generalize xi k = x at *
              simp only at hev hwfz hpl ha4 hsz HT
              have hown4 := HS4.out.own
              rcases hown4.2 with ⟨_, h0⟩ | ⟨ge, cape, cure, hve, hbe, hhe, _, _, _, _⟩
              · omega
              have hae : ae = some ⟨ge, 0, none⟩ := by cases hve; rfl
              have hgeB := HGE.out ge (by rw [hae]; rfl)
              have hcell : ∀ j v, (El es)[j]? = some v → wr.cell? ⟨ge, j, none⟩ = some v := by
                intro j v hj
                have hjl : j < es.length * 3 := by
                  have := (List.getElem?_eq_some_iff.1 hj).1
                  rw [El_length] at this
                  exact this
                have hb : wr.heap[ge]? = W4.heap[ge]? := hV.out.2.kp.block ge (by omega) (by omega)
                rw [World.cell?_of_block hb, ← hj]
                rw [hae] at hown4
                exact hown4.cellAt j (by omega)
              have y0 := hcell _ _ hev.1
              have y1 := hcell _ _ hev.2.1
              have y2 := hcell _ _ hev.2.2
              have hKH : wr.heap[H]? = W4.heap[H]? := hV.out.2.kp.block H (by omega) (by omega)
              have hKB : wr.heap[Bm]? = W4.heap[Bm]? := hV.out.2.kp.block Bm (by omega) (by omega)
              have hK0 : wr.heap[B0]? = W4.heap[B0]? := hV.out.2.kp.block B0 (by omega) (by omega)
              have c2 := (World.cell?_of_block hKH (a := ⟨H, 2, none⟩)).trans HS4.out.c2
              have hHl : H < wr.heap.size := World.block_lt_of_cell? _ _ c2
              obtain ⟨fc, hcm, ocm⟩ := HS4.out.map
              have HC : Hid (OwnsM wr 44 Bm es.length fc ∧ Cm cm fc ∧ OwnsM wr 44 B0 ts.length fp) := ⟨ocm.block hKB, hcm, HP4.out.1.block hK0⟩
              subst hae
              clear hown4 hve hhe hev hcell hKH hKB hK0 hcm ocm
              have hki : (0 : Int) ≤ (k : Int) := by omega
              have hkp : (k : Int) < (es.length : Int) := by omega
              go_upto_region 15 with fail
              obtain ⟨W, hW⟩ : ∃ W, W = wr.alloc (Obj.cells #[Value.int IntKind.i64 z, Value.int IntKind.i64 (ac : Int), Value.string s] 102) := ⟨_, rfl⟩
              rw [← hW]
              have gW : wr.grownBy W none := by rw [hW]; exact World.grownBy_alloc _ _ _
              have x0 : W.cell? ⟨wr.heap.size, 0, none⟩ = some (.int .i64 z) := by rw [hW]; simp [go_sem]
              have x1 : W.cell? ⟨wr.heap.size, 1, none⟩ = some (.int .i64 (ac : Int)) := by rw [hW]; simp [go_sem]
              have x2 : W.cell? ⟨wr.heap.size, 2, none⟩ = some (.string s) := by rw [hW]; simp [go_sem]
              have c2W := grownBy_cell gW c2
              have hVW : Hid (vTo es cm xi k = some S ∧ Vw W4 W B1 B2 B3 B4 W4.heap.size ts.length k (.slice a S.rd.length c) S) := ⟨hV.out.1, hV.out.2.grown gW⟩
              have l95 : ∀ m, (Instr.lookup 95 (.map (some Bm)) (.int .i64 z) false).run Try.prog (W.drewN m) = .ok (.bool (cm z)) (W.drewN m) := by
                intro m
                have := ((HC.out.1.kept gW (by simp)).block rfl : OwnsM (W.drewN m) 44 Bm es.length fc).look keyed44 Try.underlying95 (zero4 _) (key44 hwfz)
                rw [HC.out.2.1 z] at this
                exact this
              have H67 : Hid (∀ wx, W.grownBy wx none → (Instr.lookup 67 (.map (some B0)) (.int .i64 z) false).run Try.prog wx = .ok (.int .i64 (x : Int)) wx) := by
                intro wx g
                have := ((HC.out.2.2.kept gW (by simp)).kept g (by simp) : OwnsM wx 44 B0 ts.length fp).look keyed44 Try.underlying67 (zero3 _) (key44 hwfz)
                rw [hpl] at this
                exact this
              have hXl : B4 < wr.heap.size := by have := hV.out.2.hb; omega
              generalize wr.heap.size = X at *
              clear hW gW y0 y1 y2 c2 hV HC hwfz hpl
              generalize hcz : cm z = cz at *
              go_cut [72] from 52 to 145 (fun sb wx => sb = .bool (decide (2 ≤ ac) || !cz) ∧ W.grownBy wx none)
              case first =>
                as_aux_lemma =>
                  have hcase : 2 ≤ ac ∨ ac = 0 ∨ ac = 1 := by omega
                  rcases hcase with h2 | rfl | rfl
                  · have e0 : ((ac : Int) != 0) = true := by simp; omega
                    have e1 : ((ac : Int) != 1) = true := by simp; omega
                    have e0' : ((ac : Int) == 0) = false := by simp; omega
                    have e1' : ((ac : Int) == 1) = false := by simp; omega
                    go_quiet (fail)
                    go_wp2
                    go_meet
                    case rel => exact ⟨by simp [h2], grownBy_drewN _ _ _⟩
                  · go_quiet (fail)
                    go_wp2
                    go_meet
                    case rel => exact ⟨by simp, grownBy_drewN _ _ _⟩
                  · go_quiet (fail)
                    go_wp2
                    go_meet
                    case rel => exact ⟨by simp, grownBy_drewN _ _ _⟩
              case rest =>
                as_aux_lemma =>
                  obtain ⟨rfl, gc⟩ := hcut
                  have y0 := grownBy_cell gc x0
                  have y1 := grownBy_cell gc x1
                  have y2 := grownBy_cell gc x2
                  have l67 := H67.out wc gc
                  have hVc : Hid (vTo es cm xi k = some S ∧ Vw W4 wc B1 B2 B3 B4 W4.heap.size ts.length k (.slice a S.rd.length c) S) := ⟨hVW.out.1, hVW.out.2.grown gc⟩
                  have hXc : X < wc.heap.size := World.block_lt_of_cell? _ _ y0
                  clear l95 H67 hVW gc x0 x1 x2 c2W
                  by_cases hsk : (decide (2 ≤ ac) || !cz) = true
                  · rw [hsk]
                    have HK : Hid _ := hsk
                    clear hsk
                    go_wp2
                    go_roundg (es.length - (k + 1))
                    case measure => omega
                    case rel =>
                      refine ⟨k + 1, S, a, c, by omega, rfl, by go_num, rfl, ?_, hVc.out.2.next⟩
                      rw [HT.out S hVc.out.1]
                      have h := HK.out
                      simp only [Bool.or_eq_true, decide_eq_true_eq, Bool.not_eq_true'] at h
                      rcases h with h | h
                      · simp [vStep, show ¬ ac = 0 by omega, show ¬ ac = 1 by omega]
                      · simp [vStep, h]
                  · have hsf : (decide (2 ≤ ac) || !cz) = false := by simpa using hsk
                    rw [hsf]
                    have hcz1 : cz = true := by revert hsf; cases cz <;> simp
                    have hac2 : ac = 0 ∨ ac = 1 := by
                      have : ¬ 2 ≤ ac := by intro h; simp [h] at hsf
                      omega
                    subst hcz1
                    clear hsk hsf
                    rcases hac2 with rfl | rfl
                    · have l109 := hVc.out.2.m2.lookOk keyed9 Try.underlying109 (zero115 wc) (key9 hsz)
                      have hx0 : (0 : Int) ≤ (x : Int) := by omega
                      have hx64 : (x : Int) < 64 := by omega
                      cases hl : S.rs.last s with
                      | none =>
                        rw [lastF_none hl] at l109
                        have HL : Hid (S.rs.last s = none) := hl
                        clear hl
                        go_upto_region 24 with fail
                        obtain ⟨W5, hW5⟩ : ∃ W5, W5 = wc.alloc (Obj.cells #[Value.int IntKind.i64 0, Value.int IntKind.i64 0] 115) := ⟨_, rfl⟩
                        rw [← hW5]
                        have g5 : wc.grownBy W5 none := by rw [hW5]; exact World.grownBy_alloc _ _ _
                        have hV5 := hVc.out.2.grown g5
                        have k2 := grownBy_cell g5 y2
                        obtain ⟨w6, r7, r8, gg6, hfin⟩ := hV5.first_runs hx hn hsz (by omega)
                        have hor := or_pow (hV5.ok.fi s) (show x < 64 by omega)
                        have hset : setB (S.fi s) x = S.fi s ||| 2 ^ x := rfl
                        rw [hset] at hor
                        have HF : Hid _ := hfin
                        clear hset hfin hV5 hW5 g5 gg6
                        generalize S.fi s ||| 2 ^ x = wv2 at hor r8
                        generalize S.fi s = wv at r7 hor
                        go_region
                        go_wp2
                        go_roundg (es.length - (k + 1))
                        case measure => omega
                        case rel =>
                          refine ⟨k + 1, S.first x s, a, c, by omega, rfl, by go_num, rfl, ?_, HF.out⟩
                          rw [HT.out S hVc.out.1]
                          simp [vStep, vGet, HL.out]
                      | some p =>
                        rw [lastF_some hl] at l109
                        have HL : Hid (S.rs.last s = some p) := hl
                        have hpb := hVc.out.2.ok.last s p hl
                        clear hl
                        by_cases hp : p.1 = x
                        · have hpi : ((p.1 : Int) == (x : Int)) = true := by simp [hp]
                          have HPX : Hid (p.1 = x) := hp
                          clear hp
                          go_wp2
                          go_roundg (es.length - (k + 1))
                          case measure => omega
                          case rel =>
                            refine ⟨k + 1, S, a, c, by omega, rfl, by go_num, rfl, ?_, (hVc.out.2.grown (World.grownBy_alloc _ _ none)).next⟩
                            rw [HT.out S hVc.out.1]
                            simp [vStep, vGet, HL.out, HPX.out]
                        · have hpi : ((p.1 : Int) == (x : Int)) = false := by simp; omega
                          have HPX : Hid (¬ p.1 = x) := hp
                          clear hp
                          obtain ⟨f1, hc1, o1⟩ := hVc.out.2.m1
                          obtain ⟨kl, hkl⟩ := key113 (wf_i64 (x := x) (by omega)) hsz
                          have l108 := (o1.kept (World.grownBy_alloc wc (Obj.cells #[Value.int IntKind.i64 (p.1 : Int), Value.int IntKind.i64 (p.2 : Int)] 115) none) (by simp)).look keyed113 Try.underlying108 (zero3 _) hkl
                          rw [hc1 x s] at l108
                          have hcn := hVc.out.2.ok.cnt x s
                          clear hc1 o1 hkl
                          by_cases hc0 : 0 < S.rs.cnt x s
                          · have HC0 : Hid (0 < S.rs.cnt x s) := hc0
                            generalize S.rs.cnt x s = cv at l108 hc0 hcn
                            have hcp : (0 : Int) < (cv : Int) := by omega
                            go_wp2
                            go_ret2
                            refine ⟨?_, Or.inl ⟨Or.inl ?_, rfl⟩⟩
                            · have hB := HB0.out
                              exact grown_alloc (kp_grow HP4.out.2.2 hVc.out.2.kp (fun b hb => by omega)) _
                            · refine vTo_none (k := k + 1) ?_ _ hlt
                              rw [HT.out S hVc.out.1]
                              simp [vStep, vGet, HL.out, HPX.out, HC0.out]
                          · have HC0 : Hid (¬ 0 < S.rs.cnt x s) := hc0
                            generalize S.rs.cnt x s = cv at l108 hc0 hcn
                            have hcz0 : cv = 0 := by omega
                            subst hcz0
                            clear hc0 hcn
                            have hlen := hVc.out.2.ok.len
                            have hbs := hVc.out.2.hb
                            have HO : Hid (∀ wx, wc.grownBy wx none → wx.ownsRow W4.heap.size 118 4 (.slice a S.rd.length c) S.rd.length (Dl S.rd)) := fun wx g => owns_grown hVc.out.2.own g
                            go_wp2_with (at_builtin; refine wpList_append_src _ rfl (.tmp 114) (.tmp 120) 111 111 rfl W4.heap.size 118 i0 (.agg #[.int .i64 0, .int .i64 0, .int .i64 0, .string ByteArray.empty]) 4 40 Try.underlying111 hi hz0 hz1 hz2 rfl _ S.rd.length (Dl S.rd) rfl (HO.out _ (by repeat (first | with_reducible exact World.grownBy.refl _ _ | with_reducible refine grown_alloc ?_ _ | with_reducible refine grown_drew ?_))) _ 1 [.int .i64 (p.1 : Int), .int .i64 (p.2 : Int), .int .i64 (x : Int), .string s] rfl (Src.ofSlice _ Try.underlying111 _ 1 1 _ rfl ?q2 ?q22) ?q3 ?q4 ?q5 ?_)
                            case q2 =>
                              intro j u hj
                              match j, hj with
                              | 0, hj => (simp at hj; subst hj; simp [Addr.add, go_sem])
                              | 1, hj => (simp at hj; subst hj; simp [Addr.add, go_sem])
                              | 2, hj => (simp at hj; subst hj; simp [Addr.add, go_sem])
                              | 3, hj => (simp at hj; subst hj; simp [Addr.add, go_sem])
                            case q22 =>
                              intro u hu
                              simp at hu
                              rcases hu with rfl | rfl | rfl | rfl <;> rfl
                            case q3 => unfold maxLen; omega
                            case q4 => omega
                            case q5 => simp; omega
                            intro v' w' hown' hg' _
                            obtain ⟨a', c', rfl⟩ := row_form hown'
                            have HN : Hid (Vw W4 w' B1 B2 B3 B4 W4.heap.size ts.length (k + 1) (.slice a' (S.rd.length + 1) c') (S.read p x s)) := (hVc.out.2.grown (grown_alloc (World.grownBy_alloc _ _ none) _)).read_at hg' hown' hx hsz HL.out
                            clear hown' hg'
                            go_wp2
                            go_roundg (es.length - (k + 1))
                            case measure => omega
                            case rel =>
                              refine ⟨k + 1, S.read p x s, a', c', by omega, rfl, by go_num, by simp [VS.read], ?_, HN.out⟩
                              rw [HT.out S hVc.out.1]
                              simp [vStep, vGet, HL.out, HPX.out, HC0.out]
                    · go_upto_region 18 with fail
                      obtain ⟨st, w2, w3, w4, w5, r1, r2, r3, r4, r5, r6, r7, r8, gg2, gg3, gg4, gg5, hfin⟩ := hVc.out.2.put_runs hx hn hsz (by omega)
                      have hcn := hVc.out.2.ok.cnt x s
                      have hor := or_pow (hVc.out.2.ok.wr s) (show x < 64 by omega)
                      have hset : setB (S.wr s) x = S.wr s ||| 2 ^ x := rfl
                      rw [hset] at hor
                      have HF : Hid _ := hfin
                      clear hset hfin
                      generalize S.rs.cnt x s = cv at r1 r2 r3 r4 r5 r6 hcn
                      generalize S.wr s ||| 2 ^ x = wv2 at hor r8
                      generalize S.wr s = wv at r7 hor
                      unfold goInt at r2 r4
                      have hwc : IntKind.i64.wrap ((cv : Int) + 1) = (cv : Int) + 1 := IntWalk.i64_in _ (by omega)
                      have hx0 : (0 : Int) ≤ (x : Int) := by omega
                      have hx64 : (x : Int) < 64 := by omega
                      have k2 := gg2.cell y2 (by simp; omega)
                      have k3 := gg3.cell y2 (by simp; omega)
                      have k4 := gg4.cell k3 (by simp; omega)
                      clear gg2 gg3 gg4 gg5
                      go_region
                      go_upto_region 19 with fail
                      go_region
                      go_upto_region 20 with fail
                      go_region
                      go_wp2
                      go_roundg (es.length - (k + 1))
                      case measure => omega
                      case rel =>
                        refine ⟨k + 1, S.put x s, a, c, by omega, rfl, by go_num, rfl, ?_, HF.out⟩
                        rw [HT.out S hVc.out.1]
                        simp [vStep]
            · go_wp2
              go_meet
              have : k = es.length := by omega
              subst this
              exact ⟨S, a, c, rfl, hV.out⟩
      case rest =>
        as_aux_lemma =>
          obtain ⟨S, a, c, rfl, hV⟩ := hcut
          obtain ⟨V5, hV5⟩ : ∃ V5, V5 = wc := ⟨_, rfl⟩
          subst hV5
          have HG4 : Hid (w.grownBy W4 none) := HP4.out.2.2
          clear HM HS4 HP4 hE hT hd hz HGE hmm0 hmm1 hi hz0 hz1 hz2
          have hmk1 := run_make_row' (P := Try.prog) 119 63 (.int .u64 0) 8 Try.underlying119 info63 rfl .i64 .i64 ts.length (by omega) (by omega)
          have hmk2 := run_make_row' (P := Try.prog) 120 124 (.slice none 0 0) 24 Try.underlying120 info124 rfl .i64 .i64 ts.length (by omega) (by omega)
          go_upto_region 29 with fail
          go_cut [19] from 146 (fun s wx => ∃ R gb gt, s = .pointer (some ⟨R, 0, none⟩) ∧ Hid (∃ bb, Rw wx R gb gt bb ts.length (List.replicate ts.length 0) (List.replicate ts.length (.slice none 0 0)) (List.replicate ts.length []) ∧ V5.grownBy wx none ∧ V5.heap.size ≤ R ∧ V5.heap.size ≤ gb ∧ V5.heap.size ≤ gt ∧ bb = wx.heap.size))
          case first =>
            as_aux_lemma =>
              clear hV HG4
              go_region
              all_goals go_wp2
              all_goals go_meet
              · refine ⟨V5.heap.size + 1 + 1, V5.heap.size, V5.heap.size + 1, rfl, V5.heap.size + 3, rw_new (by simp [go_sem]) (by simp [go_sem]) ?_ ?_ (by unfold maxLen; omega) (by omega) (by omega) (by omega) (by omega) (by omega) (by omega) (by simp), grown_drew (grown_alloc (grown_alloc (World.grownBy_alloc _ _ none) _) _), by omega, by omega, by omega, by simp⟩
                · exact (Below.heap_alloc _ _ _ (by simp; omega)).trans ((Below.heap_alloc _ _ _ (by simp)).trans (heap_alloc_new _ _))
                · refine (Below.heap_alloc _ _ _ (by simp)).trans ?_
                  have := heap_alloc_new (V5.alloc (Obj.cells (madeCells #[Value.int IntKind.u64 0] ts.length) 63)) (Obj.cells (madeCells #[Value.slice none 0 0] ts.length) 124)
                  simpa using this
              · refine ⟨V5.heap.size + 1 + 1, V5.heap.size + 1, V5.heap.size, rfl, V5.heap.size + 3, rw_new (by simp [go_sem]) (by simp [go_sem]) ?_ ?_ (by unfold maxLen; omega) (by omega) (by omega) (by omega) (by omega) (by omega) (by omega) (by simp), grown_drew (grown_alloc (grown_alloc (World.grownBy_alloc _ _ none) _) _), by omega, by omega, by omega, by simp⟩
                · refine (Below.heap_alloc _ _ _ (by simp)).trans ?_
                  have := heap_alloc_new (V5.alloc (Obj.cells (madeCells #[Value.slice none 0 0] ts.length) 124)) (Obj.cells (madeCells #[Value.int IntKind.u64 0] ts.length) 63)
                  simpa using this
                · exact (Below.heap_alloc _ _ _ (by simp; omega)).trans ((Below.heap_alloc _ _ _ (by simp)).trans (heap_alloc_new _ _))
          case rest =>
            as_aux_lemma =>
              obtain ⟨R, gb, gt2, rfl, hR⟩ := hcut
              obtain ⟨bb, hRw, gV, hR1, hR2, hR3, hbb⟩ := hR.out
              have hVc := hV.out.2.grown gV
              obtain ⟨f3, hk3, o3⟩ := hVc.m3
              obtain ⟨D, oD, hDw⟩ := owns_dw o3 hk3
              have HD : Hid (Dw D S.wr ∧ Vin S) := ⟨hDw, vin_to es cm xi es.length S hV.out.1⟩
              have HV1 : Hid (vTo es cm xi es.length = some S) := hV.out.1
              have hlow : V5.heap.size ≤ wc.heap.size := gV.size
              have hbs5 : W4.heap.size ≤ V5.heap.size := hV.out.2.hb
              have HOWN : Hid (∀ b, (Value.slice a S.rd.length c).ownBlock = some b → b < V5.heap.size) := fun b e => (hV.out.2.own.lt _ e).2
              have HA : Hid (Rw wc R gb gt2 bb ts.length (List.replicate ts.length 0) (List.replicate ts.length (.slice none 0 0)) (List.replicate ts.length []) ∧ Vw W4 wc B1 B2 B3 B4 W4.heap.size ts.length es.length (.slice a S.rd.length c) S ∧ w.grownBy wc none) := by
                refine ⟨hRw, hVc, ?_⟩
                have hB := HB0.out
                exact kp_grow HG4.out hVc.kp (fun b hb => by omega)
              have hRlt : R < wc.heap.size := by have := hRw.e1; omega
              have hgblt : gb < wc.heap.size := by have := hRw.e2; omega
              have hgtlt : gt2 < wc.heap.size := by have := hRw.e3; omega
              clear hR hRw hVc o3 hk3 hDw hV HG4 gV f3
              go_upto_block 5 with (at_range; refine wpList_range_own _ rfl _ 110 rfl 9 63 keyed9 Try.underlying110 Rh B3 es.length D rfl oD ?_; intro w0 hrg0 hg0 hs0)
              go_frame
              have HA0 : Hid (Rw w0 R gb gt2 w0.heap.size ts.length (List.replicate ts.length 0) (List.replicate ts.length (.slice none 0 0)) (List.replicate ts.length []) ∧ Vw W4 w0 B1 B2 B3 B4 W4.heap.size ts.length es.length (.slice a S.rd.length c) S ∧ w.grownBy w0 none) :=
                ⟨(HA.out.1.grown hg0).rebase (by omega) (Nat.le_refl _), HA.out.2.1.grown hg0, grownBy_trans HA.out.2.2 hg0 (.inl rfl)⟩
              obtain ⟨r, hr⟩ : ∃ r, r = wc.heap.size := ⟨_, rfl⟩
              rw [← hr] at hrg0 hs0 hRlt hgblt hgtlt hlow ⊢
              have hr0 : r < w0.heap.size := by omega
              generalize hb2 : w0.heap.size = b2 at HA0 hr0
              clear hr hb2 hs0 hg0 oD HA hbb
              go_cut [] from 156 (fun wx => Hid (∃ bf left, Good S ts.length bf left ∧ (∀ kl, left kl = false) ∧ Rw wx R gb gt2 b2 ts.length bf (List.replicate ts.length (.slice none 0 0)) (List.replicate ts.length []) ∧ Vw W4 wx B1 B2 B3 B4 W4.heap.size ts.length es.length (.slice a S.rd.length c) S ∧ w.grownBy wx none))
              case first =>
                as_aux_lemma =>
                  go_wp2_with fail
                  go_loopg [20] (Maps.size D) (fun g _ wr => ∃ (left : Lit → Bool) (cnt : Nat) (bf : List Nat), g = cnt ∧ wr.ranges Try.prog 9 Rh B3 r es.length D left cnt ∧ Hid (Good S ts.length bf left ∧ Rw wr R gb gt2 b2 ts.length bf (List.replicate ts.length (.slice none 0 0)) (List.replicate ts.length []) ∧ Vw W4 wr B1 B2 B3 B4 W4.heap.size ts.length es.length (.slice a S.rd.length c) S ∧ w.grownBy wr none))
                  case atStart => exact ⟨Maps.has D, Maps.size D, List.replicate ts.length 0, rfl, hrg0, good_start HD.out.1, HA0.out⟩
                  case round =>
                    obtain ⟨left, cnt, bf, hgc, hrg, hI⟩ := hrel
                    clear hrg0 HA0
                    go_wp2_with (at_next; refine wpList_next_ranges _ rfl _ rfl 9 keyed9 Rh Value.string (fun v : Value => v) (fun key kl h => by obtain ⟨s, h1, _⟩ := keyOf_string_inv h; exact ⟨s, h1⟩) (fun v y _ => ⟨v, rfl⟩) B3 r es.length D left cnt rfl hrg ?_ ?_)
                    · intro _ hl0
                      go_wp2
                      go_meet
                      exact ⟨bf, left, hI.out.1, hl0, hI.out.2⟩
                    · intro s cv kl d ps w' cnt' hkey hlk hd hps hat hrg1 hlt hgr hsz1 hen
                      obtain ⟨s2, es2, hs, hkl⟩ := keyOf_string_inv hkey
                      cases es2
                      obtain ⟨hcv, h0⟩ := (HD.out.1 s hs).1 cv (by rw [← hkl, hat, hd])
                      subst hcv
                      obtain ⟨p, hp, _⟩ := HD.out.2.a s h0
                      have hVw := hI.out.2.2.1.other hgr (by omega) (fun e => by have := HOWN.out r e; omega)
                      have hRw := hI.out.2.1.other hgr (by omega) (by omega) (by omega) hr0
                      have hpb := (hVw.ok.last s p hp).1
                      have l109 := hVw.m2.look keyed9 Try.underlying109 (zero115 w') (key9 hs)
                      rw [lastF_some hp, Option.getD_some] at l109
                      have hws := hVw.ok.wr s
                      have hfi := hVw.ok.fi s
                      subst hkl
                      have HS : Hid (S.wr s ≠ 0 ∧ S.rs.last s = some p ∧ Good S ts.length bf left ∧ w.grownBy w' none) := by
                        have hB := HB0.out
                        exact ⟨h0, hp, hI.out.1, grownBy_trans hI.out.2.2.2 hgr (.inr fun j e => by cases e; omega)⟩
                      have hbl : bf.length = ts.length := hI.out.1.1
                      have hbsm := hI.out.1.2.1 p.1
                      have r0 := hRw.r0
                      have cb := hRw.bo.cellAt p.1 (by omega)
                      rw [Us_at bf p.1 (by omega)] at cb
                      have fb := hRw.bo.frozenAt p.1
                      have HRV : Hid (Rw w' R gb gt2 b2 ts.length bf (List.replicate ts.length (.slice none 0 0)) (List.replicate ts.length []) ∧ Vw W4 w' B1 B2 B3 B4 W4.heap.size ts.length es.length (.slice a S.rd.length c) S) := ⟨hRw, hVw⟩
                      have HRG : Hid (w'.ranges Try.prog 9 Rh B3 r es.length D (fun z => left z && !z.sameKey (.string s.data.toList)) cnt') := hrg1
                      have han : bits .andNot .u64 (S.wr s : Int) (IntKind.u64.wrap (2 ^ p.1)) = ((andN (S.wr s) (2 ^ p.1) : Nat) : Int) := andNot_pow hws (by omega)
                      have hor := bits_or_u64_nat (bf.getD p.1 0) (andN (S.wr s) (2 ^ p.1)) hbsm (andN_lt hws)
                      have hp0 : (0 : Int) ≤ (p.1 : Int) := by omega
                      have hp1 : (p.1 : Int) < (ts.length : Int) := by omega
                      have hp64 : (p.1 : Int) < 64 := by omega
                      have hRl : R < w'.heap.size := World.block_lt_of_cell? _ _ r0
                      have hne : R ≠ gb := hRw.d1
                      obtain ⟨v2, hv2⟩ : ∃ v2, bf.getD p.1 0 ||| andN (S.wr s) (2 ^ p.1) = v2 := ⟨_, rfl⟩
                      rw [hv2] at hor
                      have HV2 : Hid (bf.getD p.1 0 ||| andN (S.wr s) (2 ^ p.1) = v2) := hv2
                      clear hv2 hI hrg hrg1 hgr hVw hRw hd hps hat hlk hkey h0 hp hbsm
                      generalize bf.getD p.1 0 = v0 at cb hor
                      generalize andN (S.wr s) (2 ^ p.1) = v1 at han hor
                      obtain ⟨ws, hwse⟩ : ∃ ws, S.wr s = ws := ⟨_, rfl⟩
                      rw [hwse] at han hen hws ⊢
                      have HWS : Hid (S.wr s = ws) := hwse
                      clear hwse
                      have hfd := field115 (p.1 : Int) (p.2 : Int)
                      go_upto_region 34 with fail
                      go_region
                      obtain ⟨W6, hW6⟩ : ∃ W6, W6 = (w'.setCell ⟨gb, p.1, none⟩ (.int .u64 (v2 : Int))).drew := ⟨_, rfl⟩
                      rw [← hW6]
                      have gW6 : w'.grownBy W6 (some gb) := by
                        rw [hW6]
                        exact grownBy_trans (HRV.out.1.setB p.1 v2).2 (grownBy_drew _ _) (.inl rfl)
                      have HI6 : Hid (W6.ranges Try.prog 9 Rh B3 r es.length D (fun z => left z && !z.sameKey (.string s.data.toList)) cnt' ∧ Rw W6 R gb gt2 b2 ts.length (bf.set p.1 v2) (List.replicate ts.length (.slice none 0 0)) (List.replicate ts.length []) ∧ Vw W4 W6 B1 B2 B3 B4 W4.heap.size ts.length es.length (.slice a S.rd.length c) S ∧ w.grownBy W6 none) := by
                        have hB := HB0.out
                        refine ⟨HRG.out.kept gW6 (by simp; omega) (by simp; omega), ?_, HRV.out.2.other gW6 (by omega) (fun e => by have := HOWN.out gb e; omega), grownBy_trans HS.out.2.2.2 gW6 (.inr fun j e => by cases e; omega)⟩
                        rw [hW6]
                        exact (HRV.out.1.setB p.1 v2).1.grown (grownBy_drew _ _)
                      clear hW6 gW6 HRG HRV r0 cb fb
                      go_wp2
                      go_loopg [180] ts.length (fun g si wi => ∃ j : Nat, j ≤ ts.length ∧ g = ts.length - j ∧ si = .int .i64 j ∧ Hid (wi.ranges Try.prog 9 Rh B3 r es.length D (fun z => left z && !z.sameKey (.string s.data.toList)) cnt' ∧ Rw wi R gb gt2 b2 ts.length (inn (bf.set p.1 v2) ws (S.fi s) j) (List.replicate ts.length (.slice none 0 0)) (List.replicate ts.length []) ∧ Vw W4 wi B1 B2 B3 B4 W4.heap.size ts.length es.length (.slice a S.rd.length c) S ∧ w.grownBy wi none))
                      case atStart => exact ⟨0, Nat.zero_le _, rfl, rfl, HI6.out⟩
                      case round =>
                        obtain ⟨j, hj, hgj, rfl, hI2⟩ := hrel
                        by_cases hjn : j < ts.length
                        · have hj0 : (0 : Int) ≤ (j : Int) := by omega
                          have hj1 : (j : Int) < (ts.length : Int) := by omega
                          have hj64 : (j : Int) < 64 := by omega
                          have hbit := and_pow hws (show j < 64 by omega)
                          cases hb : ws.testBit j with
                          | false =>
                            rw [hb] at hbit
                            have HB : Hid (ws.testBit j = false) := hb
                            clear hb
                            go_wp2
                            go_roundg (ts.length - (j + 1))
                            case measure => omega
                            case rel =>
                              refine ⟨j + 1, by omega, rfl, by go_num, ?_⟩
                              show _ ∧ _
                              have e : inn (bf.set p.1 v2) ws (S.fi s) (j + 1) = inn (bf.set p.1 v2) ws (S.fi s) j := by simp [inn, HB.out]
                              rw [e]
                              exact hI2.out
                          | true =>
                            rw [hb] at hbit
                            have HB : Hid (ws.testBit j = true) := hb
                            clear hb
                            obtain ⟨q1, q2, q3, q4⟩ := hI2.out
                            have hil : (inn (bf.set p.1 v2) ws (S.fi s) j).length = ts.length := q2.lb
                            have r0 := q2.r0
                            have cb := q2.bo.cellAt j (by omega)
                            rw [Us_at _ j (by omega)] at cb
                            have fb := q2.bo.frozenAt j
                            obtain ⟨f4, hk4, o4⟩ := q3.m4
                            have l110 := (o4.block rfl : OwnsM wr.drew 9 B4 es.length f4).look keyed9 Try.underlying110 (zero63 _) (key9 hs)
                            rw [hk4 s] at l110
                            have hfs := q3.ok.fi s
                            have han2 : bits .andNot .u64 (S.fi s : Int) (IntKind.u64.wrap (2 ^ j)) = ((andN (S.fi s) (2 ^ j) : Nat) : Int) := andNot_pow hfs (by omega)
                            have hism : (inn (bf.set p.1 v2) ws (S.fi s) j).getD j 0 < 18446744073709551616 := by
                              have hw2 := HWS.out
                              refine inn_sm (sm_set HS.out.2.2.1.2.1 (by omega) ?_) hfs j (by rw [List.length_set]; omega) j
                              rw [← HV2.out]
                              exact or_lt (HS.out.2.2.1.2.1 p.1) (andN_lt (by rw [hw2]; exact hws))
                            have hor2 := bits_or_u64_nat ((inn (bf.set p.1 v2) ws (S.fi s) j).getD j 0) (andN (S.fi s) (2 ^ j)) hism (andN_lt hfs)
                            have HN : Hid (inn (bf.set p.1 v2) ws (S.fi s) (j + 1) = (inn (bf.set p.1 v2) ws (S.fi s) j).set j ((inn (bf.set p.1 v2) ws (S.fi s) j).getD j 0 ||| andN (S.fi s) (2 ^ j))) := by
                              show _ = _
                              simp only [inn, HB.out, if_true]
                            obtain ⟨v3, hv3⟩ : ∃ v3, (inn (bf.set p.1 v2) ws (S.fi s) j).getD j 0 ||| andN (S.fi s) (2 ^ j) = v3 := ⟨_, rfl⟩
                            rw [hv3] at hor2
                            have HV3 : Hid _ := hv3
                            clear hv3 hism q1 q2 q3 q4 hk4 o4 HB hil
                            generalize (inn (bf.set p.1 v2) ws (S.fi s) j).getD j 0 = u0 at cb hor2
                            generalize andN (S.fi s) (2 ^ j) = u1 at han2 hor2
                            generalize S.fi s = fs at l110 han2 hfs
                            go_upto_region 39 with fail
                            go_region
                            obtain ⟨W7, hW7⟩ : ∃ W7, W7 = (wr.setCell ⟨gb, j, none⟩ (.int .u64 (v3 : Int))).drew := ⟨_, rfl⟩
                            rw [← hW7]
                            have gW7 : wr.grownBy W7 (some gb) := by
                              rw [hW7]
                              exact grownBy_trans (hI2.out.2.1.setB j v3).2 (grownBy_drew _ _) (.inl rfl)
                            have HI7 : Hid (W7.ranges Try.prog 9 Rh B3 r es.length D (fun z => left z && !z.sameKey (.string s.data.toList)) cnt' ∧ Rw W7 R gb gt2 b2 ts.length (inn (bf.set p.1 v2) ws (S.fi s) (j + 1)) (List.replicate ts.length (.slice none 0 0)) (List.replicate ts.length []) ∧ Vw W4 W7 B1 B2 B3 B4 W4.heap.size ts.length es.length (.slice a S.rd.length c) S ∧ w.grownBy W7 none) := by
                              have hB := HB0.out
                              obtain ⟨q1, q2, q3, q4⟩ := hI2.out
                              refine ⟨q1.kept gW7 (by simp; omega) (by simp; omega), ?_, q3.other gW7 (by omega) (fun e => by have := HOWN.out gb e; omega), grownBy_trans q4 gW7 (.inr fun j e => by cases e; omega)⟩
                              rw [hW7, HN.out, HV3.out]
                              exact (q2.setB j v3).1.grown (grownBy_drew _ _)
                            clear hW7 gW7
                            go_wp2
                            go_roundg (ts.length - (j + 1))
                            case measure => omega
                            case rel => exact ⟨j + 1, by omega, rfl, by go_num, HI7.out⟩
                        · go_wp2
                          go_roundg cnt'
                          case measure => omega
                          case rel =>
                            have hjn2 : j = ts.length := by omega
                            subst hjn2
                            obtain ⟨q1, q2, q3, q4⟩ := hI2.out
                            obtain ⟨t1, t2, t3, t4⟩ := HS.out
                            have e : rnd S bf s p.1 ts.length = inn (bf.set p.1 v2) ws (S.fi s) ts.length := by
                              unfold rnd
                              rw [HV2.out, HWS.out]
                            refine ⟨_, cnt', rnd S bf s p.1 ts.length, rfl, q1, good_step t3 hs t1 t2 hn hpb (q3.ok.wr s) (q3.ok.fi s), ?_, q3, q4⟩
                            rw [e]
                            exact q2
              case rest =>
                as_aux_lemma =>
                  obtain ⟨bf, left, hG, hl0, hRw, hVw, hgw⟩ := hcut.out
                  have HG : Hid (Good S ts.length bf left ∧ (∀ kl, left kl = false)) := ⟨hG, hl0⟩
                  have hok := hVw.ok
                  have HOK : Hid (Vok S ts.length es.length) := hok
                  have hrl : S.rd.length ≤ 4096 := by have := hok.len; omega
                  have HI0 : Hid (Rw wc R gb gt2 b2 ts.length bf (List.replicate ts.length (.slice none 0 0)) (List.replicate ts.length []) ∧ Vw W4 wc B1 B2 B3 B4 W4.heap.size ts.length es.length (.slice a S.rd.length c) S ∧ w.grownBy wc none) := ⟨hRw, hVw, hgw⟩
                  clear hcut hG hl0 hRw hVw hgw hok hrg0 HA0
                  go_wp2
                  go_loopg [206] S.rd.length (fun g si wr => ∃ (i : Nat) (vs : List Value), i ≤ S.rd.length ∧ g = S.rd.length - i ∧ si = .int .i64 i ∧ Hid ((∀ r ∈ S.rd.take i, rdOk S r) ∧ Rw wr R gb gt2 b2 ts.length (rdAll S ts.length bf (List.replicate ts.length []) (S.rd.take i)).1 vs (rdAll S ts.length bf (List.replicate ts.length []) (S.rd.take i)).2 ∧ Vw W4 wr B1 B2 B3 B4 W4.heap.size ts.length es.length (.slice a S.rd.length c) S ∧ w.grownBy wr none))
                  case atStart => exact ⟨0, List.replicate ts.length (.slice none 0 0), Nat.zero_le _, rfl, rfl, fun r hr => by simp at hr, HI0.out⟩
                  case round =>
                    obtain ⟨i, vs, hi1, hgi, rfl, hI3⟩ := hrel
                    clear HI0
                    by_cases hil : i < S.rd.length
                    · obtain ⟨rr, hrr⟩ : ∃ rr, S.rd[i]? = some rr := ⟨_, List.getElem?_eq_getElem hil⟩
                      obtain ⟨hf, hnth, ht, hsz⟩ := HOK.out.rd rr (List.mem_of_getElem? hrr)
                      have hD := Dl_at S.rd i rr hrr
                      obtain ⟨q1, q2, q3, q4⟩ := hI3.out
                      have HTK : Hid (S.rd.take (i + 1) = S.rd.take i ++ [rr]) := by
                        show _ = _
                        rw [List.take_add_one, hrr]
                        rfl
                      have HM : Hid (rr ∈ S.rd) := List.mem_of_getElem? hrr
                      have hown3 := q3.own
                      rcases hown3.2 with ⟨_, h0⟩ | ⟨gr, capr, curr, hvr, hbr, hhr, _, _, _, _⟩
                      · omega
                      have har : a = some ⟨gr, 0, none⟩ := by cases hvr; rfl
                      have hcell : ∀ j v, (Dl S.rd)[j]? = some v → wr.cell? ⟨gr, j, none⟩ = some v := by
                        intro j v hj
                        have hjl : j < S.rd.length * 4 := by
                          have := (List.getElem?_eq_some_iff.1 hj).1
                          rw [Dl_length] at this
                          exact this
                        rw [har] at hown3
                        rw [← hj]
                        exact hown3.cellAt j (by omega)
                      have y0 := hcell _ _ hD.1
                      have y1 := hcell _ _ hD.2.1
                      have y2 := hcell _ _ hD.2.2.1
                      have y3 := hcell _ _ hD.2.2.2
                      obtain ⟨⟨fr, nth⟩, tt, item⟩ := rr
                      simp only at y0 y1 y2 y3 hf hnth ht hsz
                      subst har
                      clear hown3 hvr hhr hcell hD q1 q2 q3 q4 hrr
                      have hi0 : (0 : Int) ≤ (i : Int) := by omega
                      have hi1' : (i : Int) < (S.rd.length : Int) := by omega
                      go_upto_region 44 with fail
                      obtain ⟨W, hW⟩ : ∃ W, W = wr.alloc (Obj.cells #[Value.int IntKind.i64 (fr : Int), Value.int IntKind.i64 (nth : Int), Value.int IntKind.i64 (tt : Int), Value.string item] 118) := ⟨_, rfl⟩
                      rw [← hW]
                      have gW : wr.grownBy W none := by rw [hW]; exact World.grownBy_alloc _ _ _
                      have x0 : W.cell? ⟨wr.heap.size, 0, none⟩ = some (.int .i64 (fr : Int)) := by rw [hW]; simp [go_sem]
                      have x1 : W.cell? ⟨wr.heap.size, 1, none⟩ = some (.int .i64 (nth : Int)) := by rw [hW]; simp [go_sem]
                      have x2 : W.cell? ⟨wr.heap.size, 2, none⟩ = some (.int .i64 (tt : Int)) := by rw [hW]; simp [go_sem]
                      have x3 : W.cell? ⟨wr.heap.size, 3, none⟩ = some (.string item) := by rw [hW]; simp [go_sem]
                      have HIW : Hid ((∀ r ∈ S.rd.take i, rdOk S r) ∧ Rw W R gb gt2 b2 ts.length (rdAll S ts.length bf (List.replicate ts.length []) (S.rd.take i)).1 vs (rdAll S ts.length bf (List.replicate ts.length []) (S.rd.take i)).2 ∧ Vw W4 W B1 B2 B3 B4 W4.heap.size ts.length es.length (.slice (some ⟨gr, 0, none⟩) S.rd.length c) S ∧ w.grownBy W none) := by
                        obtain ⟨q1, q2, q3, q4⟩ := hI3.out
                        exact ⟨q1, q2.grown gW, q3.grown gW, grownBy_trans q4 gW (.inl rfl)⟩
                      have l108 : (Instr.lookup 108 (.map (some B1)) (kv fr item) false).run Try.prog W.drew = .ok (.int .i64 (S.rs.cnt fr item : Int)) W.drew := by
                        obtain ⟨f1, hc1, o1⟩ := HIW.out.2.2.1.m1
                        obtain ⟨kl, hkl⟩ := key113 (wf_i64 (x := fr) (by omega)) hsz
                        have := (o1.block rfl : OwnsM W.drew 113 B1 es.length f1).look keyed113 Try.underlying108 (zero3 _) hkl
                        rw [hc1 fr item] at this
                        exact this
                      have hgX : gb < wr.heap.size := by have := hI3.out.2.1.e2; have := hI3.out.2.1.hb; omega
                      have HXB : Hid (b2 ≤ wr.heap.size ∧ ∀ k, k < ts.length → ∃ u, vs[k]? = some u ∧ ∀ b, u.ownBlock = some b → b < wr.heap.size) := ⟨hI3.out.2.1.hb, fun k hk => let ⟨u, a, o⟩ := hI3.out.2.1.el k hk; ⟨u, a, fun b e => (o.lt b e).2⟩⟩
                      generalize wr.heap.size = X at *
                      clear hW gW hI3 y0 y1 y2 y3
                      by_cases hok : S.rs.cnt fr item = nth
                      · have HK : Hid (S.rs.cnt fr item = nth) := hok
                        rw [hok] at l108
                        clear hok
                        go_region
                        have hsm : (rdAll S ts.length bf (List.replicate ts.length []) (S.rd.take i)).1.getD tt 0 < 18446744073709551616 := by
                          refine rdAll_sm S ts.length _ _ bf HG.out.1.2.1 (fun r hr => ?_) tt
                          have := HOK.out.rd r (List.mem_of_mem_take hr)
                          have hl := HG.out.1.1
                          exact ⟨by omega, by omega⟩
                        have hor := or_pow hsm (show fr < 64 by omega)
                        rw [setB_eq] at hor
                        have r0 := HIW.out.2.1.r0
                        have hlb := HIW.out.2.1.lb
                        have cb := HIW.out.2.1.bo.cellAt tt (by omega)
                        rw [Us_at _ tt (by omega)] at cb
                        have fb := HIW.out.2.1.bo.frozenAt tt
                        have hne : R ≠ gb := HIW.out.2.1.d1
                        have ht0 : (0 : Int) ≤ (tt : Int) := by omega
                        have ht1 : (tt : Int) < (ts.length : Int) := by omega
                        have ht64 : (tt : Int) < 64 := by omega
                        have hf0 : (0 : Int) ≤ (fr : Int) := by omega
                        have hf64 : (fr : Int) < 64 := by omega
                        obtain ⟨u2, hu2⟩ : ∃ u2, (rdAll S ts.length bf (List.replicate ts.length []) (S.rd.take i)).1.getD tt 0 ||| 2 ^ fr = u2 := ⟨_, rfl⟩
                        rw [hu2] at hor
                        have HU2 : Hid _ := hu2
                        clear hu2 hsm
                        generalize (rdAll S ts.length bf (List.replicate ts.length []) (S.rd.take i)).1.getD tt 0 = u0 at cb hor
                        go_upto_region 46 with fail
                        go_region
                        obtain ⟨W8, hW8⟩ : ∃ W8, W8 = (W.setCell ⟨gb, tt, none⟩ (.int .u64 (u2 : Int))).drew.drew := ⟨_, rfl⟩
                        rw [← hW8]
                        have gW8 : W.grownBy W8 (some gb) := by
                          rw [hW8]
                          exact grownBy_trans (grownBy_trans (HIW.out.2.1.setB tt u2).2 (grownBy_drew _ _) (.inl rfl)) (grownBy_drew _ _) (.inl rfl)
                        have z0 := gW8.cell x0 (by simp; omega)
                        have z2 := gW8.cell x2 (by simp; omega)
                        have z3 := gW8.cell x3 (by simp; omega)
                        have HR8 : Hid (Rw W8 R gb gt2 b2 ts.length ((rdAll S ts.length bf (List.replicate ts.length []) (S.rd.take i)).1.set tt u2) vs (rdAll S ts.length bf (List.replicate ts.length []) (S.rd.take i)).2 ∧ Vw W4 W8 B1 B2 B3 B4 W4.heap.size ts.length es.length (.slice (some ⟨gr, 0, none⟩) S.rd.length c) S ∧ w.grownBy W8 none) := by
                          have hB := HB0.out
                          refine ⟨?_, HIW.out.2.2.1.other gW8 (by omega) (fun e => by have := HOWN.out gb e; omega), grownBy_trans HIW.out.2.2.2 gW8 (.inr fun j e => by cases e; omega)⟩
                          rw [hW8]
                          exact ((HIW.out.2.1.setB tt u2).1.grown (grownBy_drew _ _)).grown (grownBy_drew _ _)
                        have HNX : Hid (∀ (k : Nat) (u : Value), vs[k]? = some u → u.ownBlock ≠ some X) := by
                          intro k u hk e
                          have := HIW.out.2.1.lv
                          have hkn := (List.getElem?_eq_some_iff.1 hk).1
                          obtain ⟨u2, a, o⟩ := HXB.out.2 k (by omega)
                          rw [hk] at a
                          cases a
                          have := o _ e
                          omega
                        have hX8 : X < W8.heap.size := World.block_lt_of_cell? _ _ z0
                        have wfr : IntKind.u64.wrap (2 ^ fr) = ((2 ^ fr : Nat) : Int) := wrap_pow (by omega)
                        have wtt : IntKind.u64.wrap (2 ^ tt) = ((2 ^ tt : Nat) : Int) := wrap_pow (by omega)
                        clear hW8 gW8 cb fb x0 x1 x2 x3 l108 r0 hor
                        go_upto_region 47 with fail
                        go_region
                        obtain ⟨W9, hW9⟩ : ∃ W9, W9 = (W8.alloc (Obj.cells #[Value.int IntKind.u64 (2 ^ fr), Value.int IntKind.u64 (2 ^ tt)] 123)).drew := ⟨_, rfl⟩
                        rw [← hW9]
                        have gW9 : W8.grownBy W9 none := by rw [hW9]; exact grown_drew (World.grownBy_alloc _ _ _)
                        obtain ⟨bf2, hbf2⟩ : ∃ bf2, bf2 = (rdAll S ts.length bf (List.replicate ts.length []) (S.rd.take i)).1.set tt u2 := ⟨_, rfl⟩
                        obtain ⟨bt2, hbt2⟩ : ∃ bt2, bt2 = (rdAll S ts.length bf (List.replicate ts.length []) (S.rd.take i)).2 := ⟨_, rfl⟩
                        have HLB : Hid (bt2.length = ts.length ∧ ∀ x, x < ts.length → (bt2.getD x []).length ≤ 4096) := by
                          rw [hbt2]
                          refine ⟨by rw [(rdAll_len S ts.length bf (List.replicate ts.length []) (S.rd.take i)).2]; simp, fun x hx => ?_⟩
                          rw [rdAll_bt S ts.length bf x hx (S.rd.take i) _ (by simp)]
                          have e : (List.replicate ts.length ([] : List (Nat × Nat))).getD x [] = [] := by simp [List.getD, hx]
                          rw [e, List.nil_append]
                          exact Nat.le_trans (List.length_filterMap_le _ _) (Nat.le_trans (by rw [List.length_take]; omega) hrl)
                        have HBF : Hid (rdAll S ts.length bf (List.replicate ts.length []) (S.rd.take (i + 1)) = (bf2, btIn S ((fr, nth), tt, item) bt2 ts.length)) := by
                          show _ = _
                          rw [HTK.out, rdAll_snoc, hbf2, hbt2]
                          unfold rdBf
                          rw [HU2.out]
                        have HI9 : Hid (Ri W4 w W9 B1 B2 B3 B4 R gb gt2 b2 ts.length es.length X W8.heap.size fr tt item (.slice (some ⟨gr, 0, none⟩) S.rd.length c) S bf2 vs bt2) := by
                          refine ⟨?_, HR8.out.2.1.grown gW9, grownBy_trans HR8.out.2.2 gW9 (.inl rfl), grownBy_cell gW9 z0, grownBy_cell gW9 z2, grownBy_cell gW9 z3, ?_, ?_, fun k u hk => ⟨HNX.out k u hk, fun e => ?_⟩, HXB.out.1, by have := HXB.out.1; omega⟩
                          · rw [hbf2, hbt2]
                            exact HR8.out.1.grown gW9
                          · rw [hW9]
                            refine cell_drew ?_
                            simp [go_sem]
                          · rw [hW9]
                            refine cell_drew ?_
                            simp [go_sem]
                          · have := HR8.out.1.lv
                            have hkn := (List.getElem?_eq_some_iff.1 hk).1
                            obtain ⟨u2, a, o⟩ := HR8.out.1.el k (by omega)
                            rw [hk] at a
                            cases a
                            have := (o.lt _ e).2
                            omega
                        have HQ : Hid (∀ r ∈ S.rd.take (i + 1), rdOk S r) := by
                          show ∀ r ∈ _, _
                          rw [HTK.out]
                          intro r hr
                          rcases List.mem_append.1 hr with hr | hr
                          · exact HIW.out.1 r hr
                          · rw [List.mem_singleton] at hr
                            subst hr
                            exact HK.out
                        clear hW9 gW9 hbf2 hbt2 HR8 HNX HU2 HTK z0 z2 z3 HXB HIW HK hX8 hgX wfr wtt hlb
                        generalize W8.heap.size = Y at *
                        go_wp2
                        generalize ((2 : Int) ^ fr) = zf
                        generalize ((2 : Int) ^ tt) = zt
                        as_aux_lemma =>
                          go_loopg [246] ts.length (fun g si wi => ∃ k : Nat, k ≤ ts.length ∧ g = ts.length - k ∧ si = .int .i64 k ∧ Hid (∃ vs2, Ri W4 w wi B1 B2 B3 B4 R gb gt2 b2 ts.length es.length X Y fr tt item (.slice (some ⟨gr, 0, none⟩) S.rd.length c) S bf2 vs2 (btIn S ((fr, nth), tt, item) bt2 k)))
                          case atStart => exact ⟨0, Nat.zero_le _, rfl, rfl, vs, HI9.out⟩
                          case round =>
                            obtain ⟨k, hk, hgk, rfl, hJ⟩ := hrel
                            clear HI9
                            by_cases hkn : k < ts.length
                            · obtain ⟨vs2, hR⟩ := hJ.out
                              have hk0 : (0 : Int) ≤ (k : Int) := by omega
                              have hk1 : (k : Int) < (ts.length : Int) := by omega
                              have hk64 : (k : Int) < 64 := by omega
                              have x0 := hR.x0
                              have x2 := hR.x2
                              have x3 := hR.x3
                              obtain ⟨f3, hk3, o3⟩ := hR.vw.m3
                              have hws := hR.vw.ok.wr item
                              have hbit := and_pow hws (show k < 64 by omega)
                              have l110 : ∀ m, (Instr.lookup 110 (.map (some B3)) (.string item) false).run Try.prog (wr.drewN m) = .ok (.int .u64 (S.wr item : Int)) (wr.drewN m) := by
                                intro m
                                have := (o3.block rfl : OwnsM (wr.drewN m) 9 B3 es.length f3).look keyed9 Try.underlying110 (zero63 _) (key9 hsz)
                                rw [hk3.wd item] at this
                                exact this
                              have hins : ins S ((fr, nth), tt, item) k = ((S.wr item).testBit k && (k != fr && k != tt)) := rfl
                              have HRI : Hid (Ri W4 w wr B1 B2 B3 B4 R gb gt2 b2 ts.length es.length X Y fr tt item (.slice (some ⟨gr, 0, none⟩) S.rd.length c) S bf2 vs2 (btIn S ((fr, nth), tt, item) bt2 k)) := hR
                              clear hk3 o3 hR hJ
                              generalize S.wr item = ws at l110 hbit hins hws
                              go_upto_region 51 with fail
                              go_cut [269] from 247 to 286 (fun sb wx => sb = .bool (ins S ((fr, nth), tt, item) k) ∧ wr.grownBy wx none)
                              case first =>
                                as_aux_lemma =>
                                  have HINS : Hid _ := hins
                                  clear hins
                                  cases hb : ws.testBit k with
                                  | false =>
                                    rw [hb] at hbit
                                    have HB : Hid (ws.testBit k = false) := hb
                                    clear hb
                                    go_quiet (fail)
                                    go_wp2
                                    go_meet
                                    case rel => exact ⟨by rw [HINS.out, HB.out]; rfl, grownBy_drewN _ _ _⟩
                                  | true =>
                                    rw [hb] at hbit
                                    have HB : Hid (ws.testBit k = true) := hb
                                    clear hb
                                    by_cases e1 : k = fr
                                    · have e1' : ((k : Int) != (fr : Int)) = false := by simp; omega
                                      have HE1 : Hid ((k != fr) = false) := by
                                        show _ = _
                                        simp [e1]
                                      clear e1
                                      go_quiet (fail)
                                      go_wp2
                                      go_meet
                                      case rel => exact ⟨by rw [HINS.out, HB.out, HE1.out]; rfl, grownBy_drewN _ _ _⟩
                                    · have e1' : ((k : Int) != (fr : Int)) = true := by simp; omega
                                      have HE1 : Hid ((k != fr) = true) := by
                                        show _ = _
                                        simp [e1]
                                      clear e1
                                      by_cases e2 : k = tt
                                      · have e2' : ((k : Int) != (tt : Int)) = false := by simp; omega
                                        have HE2 : Hid ((k != tt) = false) := by
                                          show _ = _
                                          simp [e2]
                                        clear e2
                                        go_quiet (fail)
                                        go_wp2
                                        go_meet
                                        case rel => exact ⟨by rw [HINS.out, HB.out, HE1.out, HE2.out]; rfl, grownBy_drewN _ _ _⟩
                                      · have e2' : ((k : Int) != (tt : Int)) = true := by simp; omega
                                        have HE2 : Hid ((k != tt) = true) := by
                                          show _ = _
                                          simp [e2]
                                        clear e2
                                        go_quiet (fail)
                                        go_wp2
                                        go_meet
                                        case rel => exact ⟨by rw [HINS.out, HB.out, HE1.out, HE2.out]; rfl, grownBy_drewN _ _ _⟩
                              case rest =>
                                as_aux_lemma =>
                                  obtain ⟨rfl, gc⟩ := hcut
                                  have HRC : Hid (Ri W4 w wc B1 B2 B3 B4 R gb gt2 b2 ts.length es.length X Y fr tt item (.slice (some ⟨gr, 0, none⟩) S.rd.length c) S bf2 vs2 (btIn S ((fr, nth), tt, item) bt2 k)) := HRI.out.grown gc
                                  clear HRI gc l110 x0 x2 x3 hbit hins hws
                                  cases hin : ins S ((fr, nth), tt, item) k with
                                  | false =>
                                    have HIN : Hid (ins S ((fr, nth), tt, item) k = false) := hin
                                    clear hin
                                    go_wp2
                                    go_roundg (ts.length - (k + 1))
                                    case measure => omega
                                    case rel =>
                                      refine ⟨k + 1, by omega, rfl, by go_num, vs2, ?_⟩
                                      have e : btIn S ((fr, nth), tt, item) bt2 (k + 1) = btIn S ((fr, nth), tt, item) bt2 k := by simp [btIn, HIN.out]
                                      rw [e]
                                      exact HRC.out
                                  | true =>
                                    have HBT : Hid (btIn S ((fr, nth), tt, item) bt2 (k + 1) = (btIn S ((fr, nth), tt, item) bt2 k).set k ((btIn S ((fr, nth), tt, item) bt2 k).getD k [] ++ [(2 ^ fr, 2 ^ tt)])) := by
                                      show _ = _
                                      simp only [btIn, hin, if_true]
                                      rfl
                                    clear hin
                                    obtain ⟨L, hL⟩ : ∃ L, ((btIn S ((fr, nth), tt, item) bt2 k).getD k []).length = L := ⟨_, rfl⟩
                                    have hpl : L ≤ 4096 := by
                                      rw [← hL, btIn_at S ((fr, nth), tt, item) bt2 k k (by have := HLB.out.1; omega)]
                                      simp only [Nat.lt_irrefl, false_and, if_false, List.append_nil]
                                      exact HLB.out.2 k hkn
                                    obtain ⟨u, hu, ou⟩ := HRC.out.rw.el k hkn
                                    rw [hL] at ou
                                    have HPK : Hid (Pk W4 w wc B1 B2 B3 B4 R gb gt2 b2 ts.length es.length X Y fr tt k L item (.slice (some ⟨gr, 0, none⟩) S.rd.length c) S bf2 vs2 (btIn S ((fr, nth), tt, item) bt2 k) (btIn S ((fr, nth), tt, item) bt2 (k + 1)) u) := by
                                      have hB := HB0.out
                                      exact ⟨HRC.out, fun b e => by have := HOWN.out b e; omega, by omega, by omega, hkn, hu, hL, hpl, HBT.out⟩
                                    obtain ⟨au, cu, rfl⟩ := row_form ou
                                    clear ou hu HBT hL hpl HRC
                                    go_upto_region 52 with fail
                                    refine wp_region_noPanic (region52 HPK ?_)
                                    intro y270 y271 y272 y273 y274 y275 y276 y277 y278 y279 y280 y281 y282 y283 y284 y285 g cc w1 HN0
                                    have HN : Hid _ := HN0
                                    clear HN0 HPK
                                    go_wp2
                                    go_roundg (ts.length - (k + 1))
                                    case measure => omega
                                    case rel => exact ⟨k + 1, by omega, rfl, by go_num, _, HN.out⟩
                            · go_wp2
                              go_roundg (S.rd.length - (i + 1))
                              case measure => omega
                              case rel =>
                                have hke : k = ts.length := by omega
                                subst hke
                                obtain ⟨vs2, hR⟩ := hJ.out
                                refine ⟨i + 1, vs2, by omega, rfl, by go_num, HQ.out, ?_, hR.vw, hR.gr⟩
                                rw [HBF.out]
                                exact hR.rw
                      · have HK : Hid (¬ S.rs.cnt fr item = nth) := hok
                        have hneq : ((S.rs.cnt fr item : Int) != (nth : Int)) = true := by simp; omega
                        clear hok
                        generalize S.rs.cnt fr item = cv at l108 hneq
                        go_region
                        go_wp2
                        go_ret2
                        exact ⟨grownBy_trans HIW.out.2.2.2 (grownBy_drew _ _) (.inl rfl), Or.inl ⟨Or.inr ⟨S, HV1.out, _, HM.out, HK.out⟩, rfl⟩⟩
                    · go_wp2
                      go_ret2
                      have hie : i = S.rd.length := by omega
                      subst hie
                      obtain ⟨q1, q2, q3, q4⟩ := hI3.out
                      rw [List.take_length] at q1 q2
                      exact ⟨q4, Or.inr ⟨S, bf, left, R, gb, gt2, b2, vs, HV1.out, q1, HG.out.1, HG.out.2, HOK.out, rfl, q2⟩⟩
end Go.Proofs.Qxb6600752a
