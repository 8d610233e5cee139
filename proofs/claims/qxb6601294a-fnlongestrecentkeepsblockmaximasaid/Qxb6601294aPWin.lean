import Derived.Test.Qxb6601294aPair
import Derived.Deep.AppendLies
import Derived.Deep.RegionLaw
namespace Go.Proofs.Qxb6601294a
open Go.RowKit

theorem cell_far (w : World) (a b : Addr) (u : Value) (h : a.block ≠ b.block ∨ a.off ≠ b.off) : (w.setCell a u).cell? b = w.cell? b :=
  World.cell?_setCell_other _ _ _ _ (by rintro rfl; simp at h)
theorem cell_one {w : World} {a : Addr} {v : Value} (h : w.cell? a = some v) (o : Obj) : (w.alloc o).cell? a = some v := grownBy_cell (World.grownBy_alloc w o none) h

theorem two_set (W : World) (H : Nat) (p q u v : Value) (h0 : W.cell? ⟨H, 0, none⟩ = some p) (h1 : W.cell? ⟨H, 1, none⟩ = some q) : ((W.setCell ⟨H, 0, none⟩ u).setCell ⟨H, 1, none⟩ v).cell? ⟨H, 0, none⟩ = some u ∧ ((W.setCell ⟨H, 0, none⟩ u).setCell ⟨H, 1, none⟩ v).cell? ⟨H, 1, none⟩ = some v := by
  have h2 : (W.setCell ⟨H, 0, none⟩ u).cell? ⟨H, 1, none⟩ = some q := (cell_far W ⟨H, 0, none⟩ ⟨H, 1, none⟩ u (.inr (by simp))).trans h1
  constructor
  · refine (cell_far _ ⟨H, 1, none⟩ ⟨H, 0, none⟩ v (.inr (by simp))).trans ?_
    exact World.cell?_setCell_same _ _ _ h0
  · exact World.cell?_setCell_same _ _ _ h2

set_option maxHeartbeats 1000000 in
/-- window[int128].add on a ring with room; the window lies at offset 1 of block B. -/
theorem padd_room (B base : Nat) (a : Option Addr) (c : Nat) (ps : List (Int × Int)) (cap nx : Nat) (x y : Int) (w : World) (hc0 : w.cell? ⟨B, 1, none⟩ = some (.int .i64 (cap : Int))) (hc1 : w.cell? ⟨B, 2, none⟩ = some (.slice a ps.length c)) (hc2 : w.cell? ⟨B, 3, none⟩ = some (.int .i64 (nx : Int)))
   (hf : ∀ j, w.frozen? ⟨B, j, none⟩ = false) (hnc : ps.length < cap) (hgB : (Value.slice a ps.length c).ownBlock ≠ some B) (hL : ps.length ≤ 1073741824) (hb : base ≤ w.heap.size) (hown : w.ownsRow base 40 2 (.slice a ps.length c) ps.length (Pl ps)) :
    Calls Try.prog 45 #[.pointer (some ⟨B, 1, none⟩), .agg #[.int .i64 x, .int .u64 y]] w fun e w' => (∃ r, e = .returned r) ∧ ∃ v1, w'.ownsRow base 40 2 v1 (ps.length + 1) (Pl (ps ++ [(x, y)])) ∧
      w'.cell? ⟨B, 2, none⟩ = some v1 ∧ w'.cell? ⟨B, 3, none⟩ = some (.int .i64 (nx : Int)) ∧ (∀ j, j ≠ 2 → w'.cell? ⟨B, j, none⟩ = w.cell? ⟨B, j, none⟩) ∧ (∀ j, w'.frozen? ⟨B, j, none⟩ = false) ∧ Kp w w' (fun k => k = B ∨ (Value.slice a ps.length c).ownBlock = some k) ∧ (v1.ownBlock = (Value.slice a ps.length c).ownBlock ∨ ∃ k, v1.ownBlock = some k ∧ w.heap.size ≤ k) := by
  obtain ⟨i0, hi, hz0, hz1, hz2⟩ := info_parts info40
  have hBz : B < w.heap.size := World.block_lt_of_cell? _ _ hc0
  go_enter Try.func45, Try.ntmps45
  go_wp2
  go_quiet (fail)
  go_wp2
  obtain ⟨W2, hW2⟩ : ∃ W2, W2 = ((w.alloc (Obj.cells #[Value.int IntKind.i64 x, Value.int IntKind.u64 y] 40)).alloc (Obj.cells #[Value.int IntKind.i64 0, Value.int IntKind.u64 0] 40)).drewN nq := ⟨_, rfl⟩
  have hg0 : w.grownBy W2 none := by rw [hW2]; exact grownBy_trans (grown_alloc (World.grownBy_alloc w _ none) _) (grownBy_drewN _ _ _) (.inl rfl)
  have k0 : W2.cell? ⟨w.heap.size, 0, none⟩ = some (.int .i64 x) := by rw [hW2]; simp [go_sem]
  have k1 : W2.cell? ⟨w.heap.size, 1, none⟩ = some (.int .u64 y) := by rw [hW2]; simp [go_sem]
  have k2 : W2.cell? ⟨w.heap.size + 1, 0, none⟩ = some (.int .i64 0) := by rw [hW2]; simp [go_sem]
  have k3 : W2.cell? ⟨w.heap.size + 1, 1, none⟩ = some (.int .u64 0) := by rw [hW2]; simp [go_sem]
  have k4 : ∀ j, W2.frozen? ⟨w.heap.size + 1, j, none⟩ = false := fun j => by rw [hW2]; simp [go_sem]
  have hsz : w.heap.size + 2 ≤ W2.heap.size := by rw [hW2]; simp
  rw [← hW2]
  have hbk : W2.heap[B]? = w.heap[B]? := hg0.block B hBz (by simp)
  have e0 : W2.cell? ⟨B, 1, none⟩ = some (.int .i64 (cap : Int)) := (World.cell?_of_block hbk).trans hc0
  have e1 : W2.cell? ⟨B, 2, none⟩ = some (.slice a ps.length c) := (World.cell?_of_block hbk).trans hc1
  have e2 : W2.cell? ⟨B, 3, none⟩ = some (.int .i64 (nx : Int)) := (World.cell?_of_block hbk).trans hc2
  have ef : ∀ j, W2.frozen? ⟨B, j, none⟩ = false := fun j => (World.frozen?_of_block hbk).trans (hf j)
  have HOWN : Hid (∀ o, (W2.alloc o).ownsRow base 40 2 (.slice a ps.length c) ps.length (Pl ps)) := fun o => (owns_grown hown hg0).alloc o
  have HC : Hid (∀ j, W2.cell? ⟨B, j, none⟩ = w.cell? ⟨B, j, none⟩) := fun j => World.cell?_of_block hbk
  have HLT : Hid (∀ K, w.heap.size ≤ K → (Value.slice a ps.length c).ownBlock ≠ some K) := fun K hK h => by have := (hown.lt _ h).2; omega
  have HFZ : Hid (∀ (W3 w1 : World) (K : Nat), W3.grownBy w1 (Value.slice a ps.length c).ownBlock → (Value.slice a ps.length c).ownBlock ≠ some K → W3.heap[K]? = W2.heap[K]? → K < W3.heap.size → ∀ j, w1.cell? ⟨K, j, none⟩ = W2.cell? ⟨K, j, none⟩ ∧ w1.frozen? ⟨K, j, none⟩ = W2.frozen? ⟨K, j, none⟩) := fun W3 w1 K h h0 h2 h3 j => by
    have h1 : w1.heap[K]? = W2.heap[K]? := (h.block K h3 (fun e => h0 e.symm)).trans h2
    exact ⟨World.cell?_of_block h1, World.frozen?_of_block h1⟩
  have hB2 : B < W2.heap.size := by omega
  clear hW2 hbk hown hc0 hc1 hc2 hf
  go_region_law
    (first | (refine step_append_lies _ rfl (.tmp 20) (.tmp 22) 37 rfl base 40 i0 (.agg #[.int .i64 0, .int .u64 0]) 2 16 Try.underlying37 hi hz0 hz1 hz2 rfl (by omega) (.slice a ps.length c) ps.length (Pl ps) (by simp [Act.eval]) (by first | exact HOWN.out _ | exact owns_drew (HOWN.out _)) ⟨W2.heap.size, 0, none⟩ 1 1 [.int .i64 x, .int .u64 y] (by simp [Act.eval]) rfl (by intro j u hj; match j, hj with | 0, hj => (simp at hj; subst hj; simp [Addr.add]) | 1, hj => (simp at hj; subst hj; simp [Addr.add])) (by intro u hu; simp at hu; rcases hu with rfl | rfl <;> rfl) (by omega) (by unfold maxLen; omega) (by omega) (by simp; omega) _ rfl ?_; intro g c1 w1 hown1 hg1 hat1 hlt1; have FB := HFZ.out _ w1 B hg1 hgB (Below.heap_alloc W2 _ B hB2) (by simp; omega); have FC := HFZ.out _ w1 (w.heap.size + 1) hg1 (HLT.out _ (by omega)) (Below.heap_alloc W2 _ _ (by omega)) (by simp; omega); have f1 := (FB 2).1.trans e1; have f2 := (FB 3).1.trans e2; have f3 := (FB 2).2.trans (ef 2); have f5 := (FC 0).1.trans k2; have f6 := (FC 1).1.trans k3; have f7 := (FC 0).2.trans (k4 0); have f8 := (FC 1).2.trans (k4 1); have HFB : Hid (∀ j, w1.cell? ⟨B, j, none⟩ = W2.cell? ⟨B, j, none⟩) := (fun j => (FB j).1); have HFR : Hid (∀ j, w1.frozen? ⟨B, j, none⟩ = false) := (fun j => (FB j).2.trans (ef j)); have hg1s : W2.heap.size + 1 ≤ w1.heap.size := (by have := hg1.size; simpa using this); have K1 := ((((Kp.refl w (fun k => k = B ∨ (Value.slice a ps.length c).ownBlock = some k)).grown hg0 (fun k h => by cases h)).grown (World.grownBy_alloc W2 _ none) (fun k h => by cases h)).drew).grown hg1 (fun k h => .inl (.inr h)); have HKK : Hid (Kp _ _ _ ∧ _ ∧ _ ∧ _) := ⟨K1, hown1, hat1, hlt1⟩; clear FB FC hg1 K1 hown1 hat1 hlt1))
  all_goals go_wp2
  all_goals
    obtain ⟨K1, hown1, hat1, hlt1⟩ := HKK.out
    have hgb : g ≠ B := by
      rcases hat1 with h | h
      · intro e; subst e; exact hgB h
      · simp at h; omega
    have hgh : g ≠ w.heap.size + 1 := by
      rcases hat1 with h | h
      · intro e; subst e; exact HLT.out _ (by omega) h
      · simp at h; omega
    have hP : Pl (ps ++ [(x, y)]) = Pl ps ++ [.int .i64 x, .int .u64 y] := Pl_append ps [(x, y)]
    refine bodyPost_ret (v := .tuple #[.agg #[.int .i64 0, .int .u64 0], .bool false]) (by simp [results, Try.results45, go_sem, f5, f6]) rfl ⟨⟨_, rfl⟩, .slice (some ⟨g, 0, none⟩) (ps.length + 1) c1, ?_, ?_, ?_, ?_, ?_, ?_, ?_⟩
    · rw [hP]
      exact owns_other (owns_other (owns_other hown1 ⟨B, 2, none⟩ _ (by simpa [Value.ownBlock] using hgb)) ⟨w.heap.size + 1, 0, none⟩ _ (by simpa [Value.ownBlock] using hgh)) ⟨w.heap.size + 1, 1, none⟩ _ (by simpa [Value.ownBlock] using hgh)
    · simp [go_sem, f1]
    · simp [go_sem, f2]
    · intro j hj
      rw [cell_far _ _ _ _ (.inl (by simp; omega)), cell_far _ _ _ _ (.inl (by simp; omega)), cell_far _ _ _ _ (.inr (fun e => hj e.symm)), HFB.out j, HC.out j]
    · intro j
      simp only [World.frozen?_setCell, HFR.out j]
    · exact Kp.setCell (Kp.setCell (Kp.setCell K1 (Or.inl (Or.inl rfl)) _) (Or.inr (by simp)) _) (Or.inr (by simp)) _
    · rcases hat1 with h | h
      · exact .inl h.symm
      · exact .inr ⟨g, rfl, by simp at h; omega⟩

set_option maxHeartbeats 2000000 in
/-- window[int128].add on a full ring. -/
theorem padd_full (B base g c : Nat) (ps : List (Int × Int)) (cap nx : Nat) (x y : Int) (w : World) (hc0 : w.cell? ⟨B, 1, none⟩ = some (.int .i64 (cap : Int))) (hc1 : w.cell? ⟨B, 2, none⟩ = some (.slice (some ⟨g, 0, none⟩) ps.length c)) (hc2 : w.cell? ⟨B, 3, none⟩ = some (.int .i64 (nx : Int)))
   (hf : ∀ j, w.frozen? ⟨B, j, none⟩ = false) (hnc : ¬ ps.length < cap) (hnx : nx < cap) (hgB : g ≠ B) (hL : ps.length ≤ 1073741824) (hown : w.ownsRow base 40 2 (.slice (some ⟨g, 0, none⟩) ps.length c) ps.length (Pl ps)) :
    Calls Try.prog 45 #[.pointer (some ⟨B, 1, none⟩), .agg #[.int .i64 x, .int .u64 y]] w fun e w' => (∃ r, e = .returned r) ∧ w'.ownsRow base 40 2 (.slice (some ⟨g, 0, none⟩) ps.length c) ps.length (Pl (ps.set nx (x, y))) ∧
      w'.cell? ⟨B, 2, none⟩ = some (.slice (some ⟨g, 0, none⟩) ps.length c) ∧ w'.cell? ⟨B, 3, none⟩ = some (.int .i64 (((nx + 1) % cap : Nat) : Int)) ∧ (∀ j, j ≠ 3 → w'.cell? ⟨B, j, none⟩ = w.cell? ⟨B, j, none⟩) ∧ (∀ j, w'.frozen? ⟨B, j, none⟩ = false) ∧ Kp w w' (fun k => k = B ∨ k = g) := by
  have hBz : B < w.heap.size := World.block_lt_of_cell? _ _ hc0
  have hgz : g < w.heap.size := (hown.lt _ rfl).2
  have hl : nx < ps.length := by omega
  have hd : decide ((ps.length : Int) < (cap : Int)) = false := by simp; omega
  go_enter Try.func45, Try.ntmps45
  go_wp2
  go_quiet (fail)
  go_wp2
  obtain ⟨W2, hW2⟩ : ∃ W2, W2 = ((w.alloc (Obj.cells #[Value.int IntKind.i64 x, Value.int IntKind.u64 y] 40)).alloc (Obj.cells #[Value.int IntKind.i64 0, Value.int IntKind.u64 0] 40)).drewN nq := ⟨_, rfl⟩
  have hg0 : w.grownBy W2 none := by rw [hW2]; exact grownBy_trans (grown_alloc (World.grownBy_alloc w _ none) _) (grownBy_drewN _ _ _) (.inl rfl)
  have k0 : W2.cell? ⟨w.heap.size, 0, none⟩ = some (.int .i64 x) := by rw [hW2]; simp [go_sem]
  have k1 : W2.cell? ⟨w.heap.size, 1, none⟩ = some (.int .u64 y) := by rw [hW2]; simp [go_sem]
  have k2 : W2.cell? ⟨w.heap.size + 1, 0, none⟩ = some (.int .i64 0) := by rw [hW2]; simp [go_sem]
  have k3 : W2.cell? ⟨w.heap.size + 1, 1, none⟩ = some (.int .u64 0) := by rw [hW2]; simp [go_sem]
  have k4 : ∀ j, W2.frozen? ⟨w.heap.size + 1, j, none⟩ = false := fun j => by rw [hW2]; simp [go_sem]
  have hsz : w.heap.size + 2 ≤ W2.heap.size := by rw [hW2]; simp
  rw [← hW2]
  have hbk : W2.heap[B]? = w.heap[B]? := hg0.block B hBz (by simp)
  have e0 : W2.cell? ⟨B, 1, none⟩ = some (.int .i64 (cap : Int)) := (World.cell?_of_block hbk).trans hc0
  have e1 : W2.cell? ⟨B, 2, none⟩ = some (.slice (some ⟨g, 0, none⟩) ps.length c) := (World.cell?_of_block hbk).trans hc1
  have e2 : W2.cell? ⟨B, 3, none⟩ = some (.int .i64 (nx : Int)) := (World.cell?_of_block hbk).trans hc2
  have ef : ∀ j, W2.frozen? ⟨B, j, none⟩ = false := fun j => (World.frozen?_of_block hbk).trans (hf j)
  have hown2 := owns_grown hown hg0
  have hat := Pl_at ps nx hl
  have r1 : W2.cell? ⟨g, nx * 2, none⟩ = some (.int .i64 (ps.getD nx (0, 0)).1) := by rw [hown2.cellAt _ (by omega)]; exact hat.1
  have r2 : W2.cell? ⟨g, nx * 2 + 1, none⟩ = some (.int .u64 (ps.getD nx (0, 0)).2) := by rw [hown2.cellAt _ (by omega)]; exact hat.2
  have rf1 := hown2.frozenAt (nx * 2)
  have rf2 := hown2.frozenAt (nx * 2 + 1)
  have HOWN : Hid (W2.ownsRow base 40 2 (.slice (some ⟨g, 0, none⟩) ps.length c) ps.length (Pl ps)) := hown2
  have HC : Hid (∀ j, W2.cell? ⟨B, j, none⟩ = w.cell? ⟨B, j, none⟩) := fun j => World.cell?_of_block hbk
  have HK : Hid (Kp w W2 (fun k => k = B ∨ k = g)) := (Kp.refl w _).grown hg0 (fun k h => by cases h)
  generalize ps.getD nx (0, 0) = o at r1 r2
  obtain ⟨o1, o2⟩ := o
  have hgs : g ≠ w.heap.size + 1 := by omega
  clear hW2 hbk hown hown2 hat hc0 hc1 hc2 hf
  go_region
  all_goals go_wp2
  all_goals go_region
  all_goals go_wp2
  all_goals go_region
  all_goals go_wp2
  have emod : ((nx : Int) + 1) % (cap : Int) = (((nx + 1) % cap : Nat) : Int) := by simp
  have bB : B ≠ w.heap.size + 1 := by omega
  obtain ⟨FW, hFW⟩ : ∃ FW, FW = (((((((W2.setCell ⟨w.heap.size + 1, 0, none⟩ (.int .i64 o1)).setCell ⟨w.heap.size + 1, 1, none⟩ (.int .u64 o2)).setCell ⟨g, nx * 2, none⟩ (.int .i64 x)).setCell ⟨g, nx * 2 + 1, none⟩ (.int .u64 y)).setCell ⟨B, 3, none⟩ (.int .i64 (((nx : Int) + 1) % (cap : Int)))).setCell ⟨w.heap.size + 1, 0, none⟩ (.int .i64 o1)).setCell ⟨w.heap.size + 1, 1, none⟩ (.int .u64 o2)) := ⟨_, rfl⟩
  rw [← hFW]
  have hz := two_set W2 (w.heap.size + 1) _ _ (.int .i64 o1) (.int .u64 o2) k2 k3
  have hy : ∀ i, FW.cell? ⟨w.heap.size + 1, i, none⟩ = FW.cell? ⟨w.heap.size + 1, i, none⟩ := fun _ => rfl
  have z := two_set (((((W2.setCell ⟨w.heap.size + 1, 0, none⟩ (.int .i64 o1)).setCell ⟨w.heap.size + 1, 1, none⟩ (.int .u64 o2)).setCell ⟨g, nx * 2, none⟩ (.int .i64 x)).setCell ⟨g, nx * 2 + 1, none⟩ (.int .u64 y)).setCell ⟨B, 3, none⟩ (.int .i64 (((nx : Int) + 1) % (cap : Int)))) (w.heap.size + 1) _ _ (.int .i64 o1) (.int .u64 o2) (by rw [cell_far _ _ _ _ (.inl bB), cell_far _ _ _ _ (.inl hgs), cell_far _ _ _ _ (.inl hgs)]; exact hz.1) (by rw [cell_far _ _ _ _ (.inl bB), cell_far _ _ _ _ (.inl hgs), cell_far _ _ _ _ (.inl hgs)]; exact hz.2)
  rw [← hFW] at z
  obtain ⟨z0, z1⟩ := z
  clear hy hz
  refine bodyPost_ret (v := .tuple #[.agg #[.int .i64 o1, .int .u64 o2], .bool true]) (by simp [results, Try.results45, go_sem, z0, z1]) rfl ⟨⟨_, rfl⟩, ?_, ?_, ?_, ?_, ?_, ?_⟩
  all_goals subst hFW
  · have n1 : (Value.slice (some ⟨g, 0, none⟩) ps.length c).ownBlock ≠ some (w.heap.size + 1) := by simpa [Value.ownBlock] using hgs
    have n2 : (Value.slice (some ⟨g, 0, none⟩) ps.length c).ownBlock ≠ some B := by simpa [Value.ownBlock] using hgB
    exact owns_drew (owns_drew (owns_drew (owns_other (owns_other (owns_other (pstored (owns_other (owns_other HOWN.out _ _ n1) _ _ n1) nx x y hl).1 _ _ n2) _ _ n1) _ _ n1)))
  · simp [go_sem, e1]
  · simp [go_sem, e2]
  · intro j hj
    show World.cell? _ _ = _
    have c1 : ∀ (W : World) (i : Nat) (u : Value), (W.setCell ⟨w.heap.size + 1, i, none⟩ u).cell? ⟨B, j, none⟩ = W.cell? ⟨B, j, none⟩ := fun W i u => cell_far _ _ _ _ (.inl (by simp; omega))
    have c2 : ∀ (W : World) (i : Nat) (u : Value), (W.setCell ⟨g, i, none⟩ u).cell? ⟨B, j, none⟩ = W.cell? ⟨B, j, none⟩ := fun W i u => cell_far _ _ _ _ (.inl hgB)
    have c3 : ∀ (W : World) (u : Value), (W.setCell ⟨B, 3, none⟩ u).cell? ⟨B, j, none⟩ = W.cell? ⟨B, j, none⟩ := fun W u => cell_far _ _ _ _ (.inr (fun e => hj e.symm))
    rw [World.cell?_drew, World.cell?_drew, World.cell?_drew, c1, c1, c3, c2, c2, c1, c1, HC.out j]
  · intro j
    simp only [World.frozen?_setCell, World.frozen?_drew, ef j]
  · exact Kp.drew (Kp.drew (Kp.drew (Kp.setCell (Kp.setCell (Kp.setCell (Kp.setCell (Kp.setCell (Kp.setCell (Kp.setCell HK.out (Or.inr (by simp)) _) (Or.inr (by simp)) _) (Or.inl (Or.inr rfl)) _) (Or.inl (Or.inr rfl)) _) (Or.inl (Or.inl rfl)) _) (Or.inr (by simp)) _) (Or.inr (by simp)) _)))

/-- What one add does to a window of pairs. -/
def pRing (ps : List (Int × Int)) (cap nx : Nat) (z : Int × Int) : List (Int × Int) := if ps.length < cap then ps ++ [z] else ps.set nx z
def pNx (ps : List (Int × Int)) (cap nx : Nat) : Nat := if ps.length < cap then nx else (nx + 1) % cap

theorem padd_any (B base : Nat) (a : Option Addr) (c : Nat) (ps : List (Int × Int)) (cap nx : Nat) (x y : Int) (w : World) (hc0 : w.cell? ⟨B, 1, none⟩ = some (.int .i64 (cap : Int))) (hc1 : w.cell? ⟨B, 2, none⟩ = some (.slice a ps.length c)) (hc2 : w.cell? ⟨B, 3, none⟩ = some (.int .i64 (nx : Int)))
   (hf : ∀ j, w.frozen? ⟨B, j, none⟩ = false) (hnx : nx < cap) (hgB : (Value.slice a ps.length c).ownBlock ≠ some B) (hL : ps.length ≤ 1073741824) (hb : base ≤ w.heap.size) (hown : w.ownsRow base 40 2 (.slice a ps.length c) ps.length (Pl ps)) :
    Calls Try.prog 45 #[.pointer (some ⟨B, 1, none⟩), .agg #[.int .i64 x, .int .u64 y]] w fun e w' => (∃ r, e = .returned r) ∧ ∃ v1, w'.ownsRow base 40 2 v1 (pRing ps cap nx (x, y)).length (Pl (pRing ps cap nx (x, y))) ∧
      w'.cell? ⟨B, 2, none⟩ = some v1 ∧ w'.cell? ⟨B, 3, none⟩ = some (.int .i64 (pNx ps cap nx : Int)) ∧ (∀ j, j ≠ 2 → j ≠ 3 → w'.cell? ⟨B, j, none⟩ = w.cell? ⟨B, j, none⟩) ∧ (∀ j, w'.frozen? ⟨B, j, none⟩ = false) ∧ Kp w w' (fun k => k = B ∨ (Value.slice a ps.length c).ownBlock = some k) ∧ (v1.ownBlock = (Value.slice a ps.length c).ownBlock ∨ ∃ k, v1.ownBlock = some k ∧ w.heap.size ≤ k) := by
  by_cases h : ps.length < cap
  · refine (padd_room B base a c ps cap nx x y w hc0 hc1 hc2 hf h hgB hL hb hown).mono ?_
    rintro e w' ⟨hr, v1, r1, r2, r3, r4, rf, r5, r6⟩
    refine ⟨hr, v1, ?_, r2, by rw [pNx, if_pos h]; exact r3, fun j h2 _ => r4 j h2, rf, r5, r6⟩
    have el : (pRing ps cap nx (x, y)).length = ps.length + 1 := by simp [pRing, h]
    rw [el, pRing, if_pos h]
    exact r1
  · have hw := hown.2
    rcases hw with ⟨_, h0⟩ | ⟨g, c', cur, hv, _⟩
    · omega
    simp only [Value.slice.injEq, true_and] at hv
    obtain ⟨rfl, rfl⟩ := hv
    refine (padd_full B base g c ps cap nx x y w hc0 hc1 hc2 hf h hnx (by simpa [Value.ownBlock] using hgB) hL hown).mono ?_
    rintro e w' ⟨hr, r1, r2, r3, r4, rf, r5⟩
    refine ⟨hr, _, ?_, r2, by rw [pNx, if_neg h]; exact r3, fun j _ h3 => r4 j h3, rf, r5.weak (fun k hk => hk.elim .inl fun e => .inr (by simp [Value.ownBlock, e])), .inl rfl⟩
    have el : (pRing ps cap nx (x, y)).length = ps.length := by simp [pRing, h]
    rw [el, pRing, if_neg h]
    exact r1
end Go.Proofs.Qxb6601294a
