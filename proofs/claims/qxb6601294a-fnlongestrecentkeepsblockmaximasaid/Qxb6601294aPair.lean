import Derived.Test.Qxb6601294aCmp
namespace Go.Proofs.Qxb6601294a
open Go.RowKit

/-- A row of pairs, cell by cell. -/
def Pl : List (Int × Int) → List Value
  | [] => []
  | p :: ps => .int .i64 p.1 :: .int .u64 p.2 :: Pl ps
theorem Pl_length : ∀ ps : List (Int × Int), (Pl ps).length = ps.length * 2
  | [] => rfl
  | p :: ps => by simp only [Pl, List.length_cons, Pl_length ps]; omega
theorem Pl_append : ∀ (ps qs : List (Int × Int)), Pl (ps ++ qs) = Pl ps ++ Pl qs
  | [], _ => rfl
  | p :: ps, qs => by simp only [List.cons_append, Pl, Pl_append ps qs]
theorem Pl_at : ∀ (ps : List (Int × Int)) (i : Nat), i < ps.length → (Pl ps)[i * 2]? = some (.int .i64 (ps.getD i (0, 0)).1) ∧ (Pl ps)[i * 2 + 1]? = some (.int .u64 (ps.getD i (0, 0)).2)
  | [], i, h => by simp at h
  | p :: ps, 0, _ => by simp [Pl, List.getD]
  | p :: ps, i + 1, h => by
    have ih := Pl_at ps i (by simpa using h)
    have e1 : (i + 1) * 2 = i * 2 + 1 + 1 := by omega
    simp only [Pl, e1, List.getElem?_cons_succ, List.getD]
    simpa [List.getD] using ih
theorem Pl_set : ∀ (ps : List (Int × Int)) (k : Nat) (a b : Int), k < ps.length → ((Pl ps).set (k * 2) (.int .i64 a)).set (k * 2 + 1) (.int .u64 b) = Pl (ps.set k (a, b))
  | [], k, _, _, h => by simp at h
  | p :: ps, 0, a, b, _ => by simp [Pl]
  | p :: ps, k + 1, a, b, h => by
    have ih := Pl_set ps k a b (by simpa using h)
    have e1 : (k + 1) * 2 = k * 2 + 1 + 1 := by omega
    simp only [Pl, e1, List.set_cons_succ, ih]
theorem Pl_one (ps : List (Int × Int)) : ∀ u ∈ Pl ps, u.oneCell' = true := by
  induction ps with
  | nil => intro u hu; simp [Pl] at hu
  | cons p ps ih =>
    intro u hu
    simp only [Pl, List.mem_cons] at hu
    rcases hu with rfl | rfl | hu
    · rfl
    · rfl
    · exact ih u hu
theorem pl_zero (n : Nat) : (madeCells #[Value.int .i64 0, Value.int .u64 0] (n * 2)).toList = Pl (List.replicate n (0, 0)) := by
  apply List.ext_getElem?
  intro j
  by_cases hj : j < n * 2
  · have hi : j / 2 < (List.replicate n ((0 : Int), (0 : Int))).length := by simp; omega
    have h1 := Pl_at _ (j / 2) hi
    have hg : (List.replicate n ((0 : Int), (0 : Int))).getD (j / 2) (0, 0) = (0, 0) := by simp [List.getD, show j / 2 < n by omega]
    rw [hg] at h1
    by_cases hp : j % 2 = 0
    · have e : j / 2 * 2 = j := by omega
      rw [e] at h1
      rw [h1.1]
      simp [madeCells, hj, hp]
    · have e : j / 2 * 2 + 1 = j := by omega
      have e2 : j % 2 = 1 := by omega
      rw [e] at h1
      rw [h1.2]
      simp [madeCells, hj, e2]
  · rw [List.getElem?_eq_none (by simp [madeCells]; omega), List.getElem?_eq_none (by rw [Pl_length]; simp; omega)]

theorem rp_of_owns {w : World} {base : Nat} {e : TypeId} {v : Value} {ps : List (Int × Int)} {n : Nat} (h : w.ownsRow base e 2 v n (Pl ps)) : Rp w v ps := by
  have hn : ps.length = n := by have := h.1; rw [Pl_length] at this; omega
  subst hn
  rcases h.2 with ⟨rfl, h0⟩ | ⟨g, cap, cur, rfl, hb, hg, hc, hm, hs, ht⟩
  · exact ⟨none, 0, by rw [h0], by omega, by simp, fun _ => rfl, .inl h0⟩
  · refine ⟨_, cap, rfl, hc, hm, fun h => by simp at h, .inr ⟨g, 0, rfl, fun i hi => ?_⟩⟩
    have h1 := Pl_at ps i hi
    rw [Nat.zero_add, h.cellAt (i * 2) (by omega), h.cellAt (i * 2 + 1) (by omega)]
    exact h1

/-- The first k pairs copied, the rest zero. -/
def mixP (ps : List (Int × Int)) (k : Nat) : List (Int × Int) := ps.take k ++ List.replicate (ps.length - k) (0, 0)
theorem mixP_zero (ps : List (Int × Int)) : mixP ps 0 = List.replicate ps.length (0, 0) := by simp [mixP]
theorem mixP_end (ps : List (Int × Int)) : mixP ps ps.length = ps := by simp [mixP]
theorem mixP_length (ps : List (Int × Int)) (k : Nat) (h : k ≤ ps.length) : (mixP ps k).length = ps.length := by simp [mixP]; omega
theorem mixP_step (ps : List (Int × Int)) (k : Nat) (h : k < ps.length) : (mixP ps k).set k (ps.getD k (0, 0)) = mixP ps (k + 1) := by
  unfold mixP
  have e : ps.length - k = (ps.length - (k + 1)) + 1 := by omega
  rw [e, List.replicate_succ, List.set_append_right _ _ (by simp; omega)]
  have e2 : k - (ps.take k).length = 0 := by simp; omega
  rw [e2, List.set_cons_zero, List.take_succ_eq_append_getElem h, List.append_assoc]
  simp only [List.cons_append, List.nil_append, List.getD, List.getElem?_eq_getElem h, Option.getD_some]
theorem mixP_at (ps : List (Int × Int)) (k : Nat) (h : k < ps.length) : (mixP ps k).getD k (0, 0) = (0, 0) := by
  unfold mixP
  have e : ps.length - k = (ps.length - (k + 1)) + 1 := by omega
  simp only [List.getD]
  rw [List.getElem?_append_right (by simp; omega), e, List.replicate_succ]
  have e2 : k - (ps.take k).length = 0 := by simp; omega
  rw [e2]; rfl

/-- Two stores into a row of pairs. -/
theorem pstored {w : World} {base g n c : Nat} {e : TypeId} {ps : List (Int × Int)} (h : w.ownsRow base e 2 (.slice (some ⟨g, 0, none⟩) n c) n (Pl ps)) (j : Nat) (a b : Int) (hj : j < ps.length) :
    ((w.setCell ⟨g, j * 2, none⟩ (.int .i64 a)).setCell ⟨g, j * 2 + 1, none⟩ (.int .u64 b)).ownsRow base e 2 (.slice (some ⟨g, 0, none⟩) n c) n (Pl (ps.set j (a, b))) ∧
      w.grownBy ((w.setCell ⟨g, j * 2, none⟩ (.int .i64 a)).setCell ⟨g, j * 2 + 1, none⟩ (.int .u64 b)) (some g) := by
  have h1 := h.stored (j * 2) (.int .i64 a)
  have h2 := h1.1.stored (j * 2 + 1) (.int .u64 b)
  rw [Pl_set ps j a b hj] at h2
  exact ⟨h2.1, grownBy_trans h1.2 h2.2 (.inl rfl)⟩

set_option maxHeartbeats 400000 in
theorem cloneP_some (x : Addr) (cap : Nat) (ps : List (Int × Int)) (w : World) (hl : ps.length ≤ 1048576) (hx : ps.length = 0 ∨ ∃ b o, x = ⟨b, o, none⟩ ∧ ∀ i, i < ps.length → w.cell? ⟨b, o + i * 2, none⟩ = some (.int .i64 (ps.getD i (0, 0)).1) ∧ w.cell? ⟨b, o + i * 2 + 1, none⟩ = some (.int .u64 (ps.getD i (0, 0)).2)) :
    Calls Try.prog 22 #[.slice (some x) ps.length cap] w fun e w' => ∃ v', e = .returned v' ∧ w'.ownsRow w.heap.size 43 2 v' ps.length (Pl ps) ∧ w.grownBy w' none := by
  have q34 : ∀ (w : World) (a : Option Addr) (n c n' c' : Nat), (binOp .eql 34 (.slice a n c) (.slice none n' c')).run Try.prog w = .ok (.bool a.isNone) w := fun w a n c n' c' => Lib.run_eql_slice_nil w _ _ a n c n' c' Try.underlying34
  obtain ⟨i0, hi, hz0, hz1, hz2⟩ := info_parts info43
  go_enter Try.func22, Try.ntmps22
  go_wp2_with (at_make; refine wpList_make_full _ rfl _ _ 34 rfl w.heap.size 43 i0 (.agg #[.int .i64 0, .int .u64 0]) 2 Try.underlying34 hi hz0 hz1 _ _ _ _ ps.length rfl rfl rfl rfl ?b1 ?b2 ?b3 ?_)
  case b1 => rw [hz2]; omega
  case b2 => unfold maxLen; omega
  case b3 => exact Nat.le_refl _
  intro w0 hown0 hgrow0
  have hown1 : w0.ownsRow w.heap.size 43 2 (.slice (some ⟨w.heap.size, 0, none⟩) ps.length ps.length) ps.length (Pl (mixP ps 0)) := by
    rw [mixP_zero, ← pl_zero]; exact hown0
  clear hown0
  go_wp2
  go_loopw [4] (fun i wr => ∃ k : Nat, k ≤ ps.length ∧ i = .int .i64 k ∧ wr.ownsRow w.heap.size 43 2 (.slice (some ⟨w.heap.size, 0, none⟩) ps.length ps.length) ps.length (Pl (mixP ps k)) ∧ w.grownBy wr none) (fun i _ => ps.length - (intOf i).toNat)
  case atStart => exact ⟨0, Nat.zero_le _, rfl, hown1, hgrow0⟩
  case round =>
    obtain ⟨k, hk, rfl, hown, hg⟩ := hrel
    by_cases hlt : k < ps.length
    · rcases hx with h0 | ⟨b, o, rfl, hc⟩
      · omega
      have hml := mixP_length ps k hk
      have c1 := grownBy_cell hg (hc k hlt).1
      have c2 := grownBy_cell hg (hc k hlt).2
      have h1 := Pl_at (mixP ps k) k (by omega)
      rw [mixP_at _ _ hlt] at h1
      have d1 : wr.cell? ⟨w.heap.size, k * 2, none⟩ = some (.int .i64 0) := by rw [hown.cellAt (k * 2) (by omega)]; exact h1.1
      have d2 : wr.cell? ⟨w.heap.size, k * 2 + 1, none⟩ = some (.int .u64 0) := by rw [hown.cellAt (k * 2 + 1) (by omega)]; exact h1.2
      have f1 := hown.frozenAt (k * 2)
      have f2 := hown.frozenAt (k * 2 + 1)
      have R := pstored hown k (ps.getD k (0, 0)).1 (ps.getD k (0, 0)).2 (by omega)
      rw [show ((ps.getD k (0, 0)).1, (ps.getD k (0, 0)).2) = ps.getD k (0, 0) from rfl, mixP_step _ _ hlt] at R
      generalize ps.getD k (0, 0) = z at c1 c2 R
      obtain ⟨z1, z2⟩ := z
      have HR : Hid (_ ∧ _) := R
      have hz : w.heap.size < wr.heap.size := (hown.lt _ rfl).2
      clear R hc hml h1
      go_wp2
      go_roundw
      case rel => exact ⟨k + 1, by omega, by go_num, HR.out.1, grownBy_trans hg HR.out.2 (.inr fun j h => by cases h; exact Nat.le_refl _)⟩
      case measure => simp [intOf]; omega
    · go_wp2
      go_ret
      obtain rfl : k = ps.length := by omega
      rw [mixP_end] at hown
      exact ⟨_, rfl, hown, hg⟩

set_option maxHeartbeats 400000 in
theorem cloneP_nil (w : World) : Calls Try.prog 22 #[.slice none 0 0] w fun e w' => e = .returned (.slice none 0 0) ∧ w' = w := by
  have q34 : ∀ (w : World) (a : Option Addr) (n c n' c' : Nat), (binOp .eql 34 (.slice a n c) (.slice none n' c')).run Try.prog w = .ok (.bool a.isNone) w := fun w a n c n' c' => Lib.run_eql_slice_nil w _ _ a n c n' c' Try.underlying34
  go_enter Try.func22, Try.ntmps22
  go_wp2
  go_ret
  exact ⟨rfl, rfl⟩

theorem cloneP_any (v : Value) (ps : List (Int × Int)) (w : World) (h : Rp w v ps) (hl : ps.length ≤ 1048576) :
    Calls Try.prog 22 #[v] w fun e w' => ∃ v', e = .returned v' ∧ w'.ownsRow w.heap.size 43 2 v' ps.length (Pl ps) ∧ w.grownBy w' none := by
  obtain ⟨a, cap, rfl, hc, hm, hn, hx⟩ := h
  cases a with
  | none =>
    obtain rfl := hn rfl
    obtain rfl : ps = [] := List.eq_nil_of_length_eq_zero (by omega)
    refine (cloneP_nil w).mono ?_
    rintro e w' ⟨rfl, rfl⟩
    exact ⟨_, rfl, World.ownsRow_nil _ _ _ _, World.grownBy.refl _ _⟩
  | some x => exact cloneP_some x cap ps w hl (hx.elim .inl fun ⟨b, o, h1, h2⟩ => .inr ⟨b, o, by simpa using h1, h2⟩)
end Go.Proofs.Qxb6601294a
