import Derived.Test.Qxb6600752aRep2
namespace Go.Proofs.Qxb6600752a
open Go.RowKit Go.Maps

/-- A row of events, cell by cell. -/
def El : List (Int × Nat × ByteArray) → List Value
  | [] => []
  | e :: es => .int .i64 e.1 :: .int .i64 (e.2.1 : Int) :: .string e.2.2 :: El es
theorem El_length : ∀ es : List (Int × Nat × ByteArray), (El es).length = es.length * 3
  | [] => rfl
  | e :: es => by simp only [El, List.length_cons, El_length es]; omega
theorem El_append : ∀ (es fs : List (Int × Nat × ByteArray)), El (es ++ fs) = El es ++ El fs
  | [], _ => rfl
  | e :: es, fs => by simp only [List.cons_append, El, El_append es fs]
theorem El_at : ∀ (es : List (Int × Nat × ByteArray)) (i : Nat) (e : Int × Nat × ByteArray), es[i]? = some e → (El es)[i * 3]? = some (.int .i64 e.1) ∧ (El es)[i * 3 + 1]? = some (.int .i64 (e.2.1 : Int)) ∧ (El es)[i * 3 + 2]? = some (.string e.2.2)
  | [], i, e, h => by simp at h
  | e0 :: es, 0, e, h => by simp at h; subst h; simp [El]
  | e0 :: es, i + 1, e, h => by
    have ih := El_at es i e (by simpa using h)
    have e1 : (i + 1) * 3 = i * 3 + 1 + 1 + 1 := by omega
    have e2 : (i + 1) * 3 + 1 = i * 3 + 1 + 1 + 1 + 1 := by omega
    have e3 : (i + 1) * 3 + 2 = i * 3 + 2 + 1 + 1 + 1 := by omega
    rw [e2, e3, e1]
    simp only [El, List.getElem?_cons_succ]
    exact ih

/-- Who has committed, as the map of the history has it. -/
def Cm (c : Int → Bool) (f : Value → Option Value) : Prop := ∀ z, (f (.int .i64 z)).getD (.bool false) = .bool (c z)
theorem info102 : (Try.prog.info? 102).map (fun i => (i.zero, i.size, i.bytes)) = some (some (.agg #[.int .i64 0, .int .i64 0, .string ByteArray.empty]), 3, 32) := by kernel_rfl

/-- The history in block H. -/
structure Hs (w : World) (H base Bm n : Nat) (vt v : Value) (es : List (Int × Nat × ByteArray)) (c : Int → Bool) : Prop where
  c0 : w.cell? ⟨H, 0, none⟩ = some vt
  c1 : w.cell? ⟨H, 1, none⟩ = some v
  c2 : w.cell? ⟨H, 2, none⟩ = some (.map (some Bm))
  fz : ∀ j, w.frozen? ⟨H, j, none⟩ = false
  own : w.ownsRow base 102 3 v es.length (El es)
  map : ∃ f, Cm c f ∧ OwnsM w 44 Bm n f
  hH : H < base
  hB : Bm < base
  ne : H ≠ Bm
  hb : base ≤ w.heap.size

theorem Hs.grown {w w' : World} {H base Bm n : Nat} {vt v : Value} {es : List (Int × Nat × ByteArray)} {c : Int → Bool} (h : Hs w H base Bm n vt v es c) (g : w.grownBy w' none) : Hs w' H base Bm n vt v es c :=
  have hb : w'.heap[H]? = w.heap[H]? := g.block H (World.block_lt_of_cell? _ _ h.c0) (by simp)
  ⟨grownBy_cell g h.c0, grownBy_cell g h.c1, grownBy_cell g h.c2, fun j => (World.frozen?_of_block hb).trans (h.fz j), owns_grown h.own g, let ⟨f, h1, h2⟩ := h.map; ⟨f, h1, h2.kept g (by simp)⟩, h.hH, h.hB, h.ne, Nat.le_trans h.hb g.size⟩

theorem hs_put {W1 w1 : World} {H base Bm n m : Nat} {vt v v2 : Value} {es es2 : List (Int × Nat × ByteArray)} {c : Int → Bool} (h : Hs W1 H base Bm n vt v es c) (FH : w1.heap[H]? = W1.heap[H]?) (FB : w1.heap[Bm]? = W1.heap[Bm]?) (own1 : w1.ownsRow base 102 3 v2 m (El es2)) (hm : m = es2.length) (hs : W1.heap.size ≤ w1.heap.size) :
    Hs (w1.setCell ⟨H, 1, none⟩ v2) H base Bm n vt v2 es2 c := by
  subst hm
  have c0 := (World.cell?_of_block FH (a := ⟨H, 0, none⟩)).trans h.c0
  have c1 := (World.cell?_of_block FH (a := ⟨H, 1, none⟩)).trans h.c1
  have c2 := (World.cell?_of_block FH (a := ⟨H, 2, none⟩)).trans h.c2
  refine ⟨(cell_far _ _ _ _ (.inr (by simp))).trans c0, World.cell?_setCell_same _ _ _ c1, (cell_far _ _ _ _ (.inr (by simp))).trans c2, fun j => ?_, owns_other own1 _ _ (fun e => ?_), ?_, h.hH, h.hB, h.ne, ?_⟩
  · rw [World.frozen?_setCell]
    exact (World.frozen?_of_block FH).trans (h.fz j)
  · have := (own1.lt _ e).1
    have := h.hH
    simp only at *
    omega
  · obtain ⟨f, h1, h2⟩ := h.map
    exact ⟨f, h1, (h2.block FB).setCell (by simpa using h.ne.symm) _⟩
  · simpa using Nat.le_trans h.hb hs

theorem hs_map {w w' : World} {H base Bm n m : Nat} {vt v : Value} {es : List (Int × Nat × ByteArray)} {c c' : Int → Bool} {f' : Value → Option Value} (h : Hs w H base Bm n vt v es c) (g : w.grownBy w' (some Bm)) (hc : Cm c' f') (hm : OwnsM w' 44 Bm m f') : Hs w' H base Bm m vt v es c' := by
  have FH : w'.heap[H]? = w.heap[H]? := g.block H (World.block_lt_of_cell? _ _ h.c0) (by simpa using h.ne)
  have hb := h.hB
  refine ⟨(World.cell?_of_block FH).trans h.c0, (World.cell?_of_block FH).trans h.c1, (World.cell?_of_block FH).trans h.c2, fun j => (World.frozen?_of_block FH).trans (h.fz j), h.own.kept g (Or.inr fun e => ?_), ⟨f', hc, hm⟩, h.hH, h.hB, h.ne, Nat.le_trans h.hb g.size⟩
  have := (h.own.lt _ e).1
  omega
theorem cm_put {c : Int → Bool} {f : Value → Option Value} (h : Cm c f) (t : Int) (b : Bool) : Cm (fun z => if z = t then b else c z) (updF f (.int .i64 t) (.bool b)) := by
  intro z
  by_cases e : z = t
  · subst e
    rw [updF_same]
    simp
  · rw [updF_other _ _ (by simpa using e), h z]
    simp [e]

def AddOut (w : World) (H base Bm n : Nat) (vt v : Value) (es : List (Int × Nat × ByteArray)) (cm : Int → Bool) (t : Int) (ac : Nat) (s : ByteArray) (e : Ending) (w' : World) : Prop :=
  e = .returned (.tuple #[]) ∧ ∃ g c', Hs w' H base Bm (n + 1) vt (.slice (some ⟨g, 0, none⟩) (es.length + 1) c') (es ++ [(t, ac, s)]) (fun z => if z = t ∧ 2 ≤ ac then decide (ac = 2) else cm z) ∧ Kp w w' (fun k => k = H ∨ k = Bm ∨ v.ownBlock = some k)

set_option maxRecDepth 6000 in
set_option maxHeartbeats 2000000 in
theorem add_any (H base Bm n : Nat) (vt : Value) (a : Option Addr) (c : Nat) (es : List (Int × Nat × ByteArray)) (cm : Int → Bool) (t : Int) (ac : Nat) (s : ByteArray) (w : World) (h : Hs w H base Bm n vt (.slice a es.length c) es cm) (ha : ac < 4) (ht : (Lit.int .i64 t).wf = true) (hl : es.length ≤ 4096) (hn : n ≤ 4096) :
    Calls Try.prog 45 #[.pointer (some ⟨H, 0, none⟩), .agg #[.int .i64 t, .int .i64 (ac : Int), .string s]] w (AddOut w H base Bm n vt (.slice a es.length c) es cm t ac s) := by
  obtain ⟨i0, hi, hz0, hz1, hz2⟩ := info_parts info102
  go_enter Try.func45, Try.ntmps45
  go_upto_region 1 with fail
  obtain ⟨W1, hW1⟩ : ∃ W1, W1 = w.alloc (Obj.cells #[Value.int IntKind.i64 t, Value.int IntKind.i64 (ac : Int), Value.string s] 102) := ⟨_, rfl⟩
  rw [← hW1]
  have g1 : w.grownBy W1 none := by rw [hW1]; exact World.grownBy_alloc _ _ _
  have x0 : W1.cell? ⟨w.heap.size, 0, none⟩ = some (.int .i64 t) := by rw [hW1]; simp [go_sem]
  have x1 : W1.cell? ⟨w.heap.size, 1, none⟩ = some (.int .i64 (ac : Int)) := by rw [hW1]; simp [go_sem]
  have x2 : W1.cell? ⟨w.heap.size, 2, none⟩ = some (.string s) := by rw [hW1]; simp [go_sem]
  have hX : w.heap.size < W1.heap.size := World.block_lt_of_cell? _ _ x0
  have hXb : base ≤ w.heap.size := h.hb
  have HH : Hid (Hs W1 H base Bm n vt (.slice a es.length c) es cm) := h.grown g1
  have HK : Hid (Kp w W1 (fun k => k = H ∨ k = Bm ∨ (Value.slice a es.length c).ownBlock = some k)) := (Kp.refl w _).grown g1 (fun k h => by cases h)
  have HXN : Hid ((Value.slice a es.length c).ownBlock ≠ some w.heap.size) := fun e => by have := (h.own.lt _ e).2; omega
  have hHB : H < base := h.hH
  have hBB : Bm < base := h.hB
  have hne : H ≠ Bm := h.ne
  generalize w.heap.size = X at *
  clear hW1 g1 h
  go_cut [] from 4 (fun wx => ∃ g c', Hid (Hs wx H base Bm n vt (.slice (some ⟨g, 0, none⟩) (es.length + 1) c') (es ++ [(t, ac, s)]) cm ∧ Kp w wx (fun k => k = H ∨ k = Bm ∨ (Value.slice a es.length c).ownBlock = some k)) ∧ wx.cell? ⟨X, 0, none⟩ = some (.int .i64 t) ∧ wx.cell? ⟨X, 1, none⟩ = some (.int .i64 (ac : Int)) ∧ wx.cell? ⟨X, 2, none⟩ = some (.string s))
  case first =>
    have c1 := HH.out.c1
    have z1 := HH.out.fz 1
    have hHl : H < W1.heap.size := World.block_lt_of_cell? _ _ c1
    have HO : Hid (∀ wx, W1.grownBy wx none → wx.ownsRow base 102 3 (.slice a es.length c) es.length (El es)) := fun wx g => owns_grown HH.out.own g
    have HNH : Hid ((Value.slice a es.length c).ownBlock ≠ some H) := fun e => by have := (HH.out.own.lt _ e).1; omega
    have hBl : Bm < W1.heap.size := by have := HH.out.hb; omega
    have HNB : Hid ((Value.slice a es.length c).ownBlock ≠ some Bm) := fun e => by have := (HH.out.own.lt _ e).1; omega
    have HFZ : Hid (∀ (W3 w1 : World) (K : Nat), W3.grownBy w1 (Value.slice a es.length c).ownBlock → (Value.slice a es.length c).ownBlock ≠ some K → W1.grownBy W3 none → K < W1.heap.size → w1.heap[K]? = W1.heap[K]?) := fun W3 w1 K h h0 h2 h3 => (h.block K (Nat.lt_of_lt_of_le h3 h2.size) (fun e => h0 e.symm)).trans (h2.block K h3 (by simp))
    have HKW : Hid (∀ (W3 w1 : World), W3.grownBy w1 (Value.slice a es.length c).ownBlock → W1.grownBy W3 none → Kp w w1 (fun k => k = H ∨ k = Bm ∨ (Value.slice a es.length c).ownBlock = some k)) := fun W3 w1 h1 h2 => (HK.out.grown h2 (fun k h => by cases h)).grown h1 (fun k h => Or.inl (Or.inr (Or.inr h)))
    go_region_law
      (first | (refine step_append_lies _ rfl (.tmp 8) (.tmp 10) 94 rfl base 102 i0 (.agg #[.int .i64 0, .int .i64 0, .string ByteArray.empty]) 3 32 Try.underlying94 hi hz0 hz1 hz2 rfl (by omega) (.slice a es.length c) es.length (El es) (by simp [Act.eval]) (HO.out _ (by repeat (first | with_reducible exact World.grownBy.refl _ _ | with_reducible refine grown_alloc ?_ _ | with_reducible refine grown_drew ?_))) ⟨W1.heap.size, 0, none⟩ 1 1 [.int .i64 t, .int .i64 (ac : Int), .string s] (by simp [Act.eval]) rfl (by intro j u hj; match j, hj with | 0, hj => (simp at hj; subst hj; simp [Addr.add, go_sem]) | 1, hj => (simp at hj; subst hj; simp [Addr.add, go_sem]) | 2, hj => (simp at hj; subst hj; simp [Addr.add, go_sem])) (by intro u hu; simp at hu; rcases hu with rfl | rfl | rfl <;> rfl) (by omega) (by unfold maxLen; omega) (by omega) (by simp; omega) _ rfl ?_; intro g cc w1 hown1 hg1 hat1 hlt1; have G3 := HKW.out _ w1 hg1 (by repeat (first | with_reducible exact World.grownBy.refl _ _ | with_reducible refine grown_alloc ?_ _ | with_reducible refine grown_drew ?_)); have FH := HFZ.out _ w1 H hg1 HNH.out (by repeat (first | with_reducible exact World.grownBy.refl _ _ | with_reducible refine grown_alloc ?_ _ | with_reducible refine grown_drew ?_)) hHl; have FX := HFZ.out _ w1 X hg1 HXN.out (by repeat (first | with_reducible exact World.grownBy.refl _ _ | with_reducible refine grown_alloc ?_ _ | with_reducible refine grown_drew ?_)) hX; have k1 := (World.cell?_of_block FH (a := ⟨H, 1, none⟩)).trans c1; have k2 := (World.frozen?_of_block FH (a := ⟨H, 1, none⟩)).trans z1; have y0 := (World.cell?_of_block FX (a := ⟨X, 0, none⟩)).trans x0; have y1 := (World.cell?_of_block FX (a := ⟨X, 1, none⟩)).trans x1; have y2 := (World.cell?_of_block FX (a := ⟨X, 2, none⟩)).trans x2; have FB := HFZ.out _ w1 Bm hg1 HNB.out (by repeat (first | with_reducible exact World.grownBy.refl _ _ | with_reducible refine grown_alloc ?_ _ | with_reducible refine grown_drew ?_)) hBl; have HA : Hid (_ ∧ _ ∧ _ ∧ _) := And.intro hown1 (And.intro G3 (And.intro FH FB)); have HSZ : W1.heap.size ≤ w1.heap.size := Nat.le_trans (World.grownBy.size (w := W1) (row := none) (by repeat (first | with_reducible exact World.grownBy.refl _ _ | with_reducible refine grown_alloc ?_ _ | with_reducible refine grown_drew ?_))) hg1.size; clear hown1 hat1 G3 FH FX FB hg1))
    all_goals go_wp2
    all_goals go_meet
    all_goals
      obtain ⟨q1, q2, q3, q4⟩ := HA.out
      have q1' : w1.ownsRow base 102 3 (.slice (some ⟨g, 0, none⟩) (es.length + 1) cc) (es.length + 1) (El (es ++ [(t, ac, s)])) := by rw [El_append]; exact q1
      exact ⟨g, cc, ⟨hs_put HH.out q3 q4 q1' (by simp) HSZ, q2.setCell (.inl (.inl rfl)) _⟩, cell_set y0 (by simp; omega), cell_set y1 (by simp; omega), cell_set y2 (by simp; omega)⟩
  case rest =>
    obtain ⟨g, c', hC, y0, y1, y2⟩ := hcut
    clear HH HK HXN x0 x1 x2
    have hcase : ac < 2 ∨ ac = 2 ∨ ac = 3 := by omega
    rcases hcase with h2 | rfl | rfl
    · have q2 : ((ac : Int) == 2) = false := by simp; omega
      have q3 : ((ac : Int) == 3) = false := by simp; omega
      go_wp2
      refine bodyPost_end (results_none rfl _ _ _) rfl ⟨rfl, g, c', ?_, hC.out.2⟩
      obtain ⟨f, h1, h2'⟩ := hC.out.1.map
      refine hs_map hC.out.1 (World.grownBy.refl _ _) (f' := f) ?_ (h2'.mono (Nat.le_succ n))
      intro z
      simp [show ¬ 2 ≤ ac by omega, h1 z]
    · go_upto_region 3 with fail
      obtain ⟨f, h1, h2⟩ := hC.out.1.map
      obtain ⟨w5, hrun, g5, hf5⟩ := (h2.block rfl : OwnsM wc.drew 44 Bm n f).store keyed44 Try.underlying95 (by unfold maxLen; omega) (.bool true) (key44 ht)
      have d2 := hC.out.1.c2
      have HF : Hid (Cm _ _ ∧ _) := And.intro (cm_put h1 t true) (hf5 (updF f (.int .i64 t) (.bool true)) (updF_same _ _ _) (fun key' _ _ hne => updF_other _ _ hne))
      have HG : Hid _ := g5
      clear h1 h2 hf5 g5
      go_region
      go_wp2
      refine bodyPost_end (results_none rfl _ _ _) rfl ⟨rfl, g, c', ?_, (hC.out.2.drew).grown HG.out (fun k h => Or.inl (Or.inr (Or.inl (Option.some.inj h).symm)))⟩
      refine hs_map hC.out.1 (grownBy_trans (grownBy_drew wc _) HG.out (.inl rfl)) (f' := updF f (.int .i64 t) (.bool true)) ?_ HF.out.2
      have := HF.out.1
      simpa using this
    · go_upto_region 3 with fail
      obtain ⟨f, h1, h2⟩ := hC.out.1.map
      obtain ⟨w5, hrun, g5, hf5⟩ := (h2.block rfl : OwnsM wc.drew 44 Bm n f).store keyed44 Try.underlying95 (by unfold maxLen; omega) (.bool false) (key44 ht)
      have d2 := hC.out.1.c2
      have HF : Hid (Cm _ _ ∧ _) := And.intro (cm_put h1 t false) (hf5 (updF f (.int .i64 t) (.bool false)) (updF_same _ _ _) (fun key' _ _ hne => updF_other _ _ hne))
      have HG : Hid _ := g5
      clear h1 h2 hf5 g5
      go_region
      go_wp2
      refine bodyPost_end (results_none rfl _ _ _) rfl ⟨rfl, g, c', ?_, (hC.out.2.drew).grown HG.out (fun k h => Or.inl (Or.inr (Or.inl (Option.some.inj h).symm)))⟩
      refine hs_map hC.out.1 (grownBy_trans (grownBy_drew wc _) HG.out (.inl rfl)) (f' := updF f (.int .i64 t) (.bool false)) ?_ HF.out.2
      have := HF.out.1
      simpa using this
end Go.Proofs.Qxb6600752a
