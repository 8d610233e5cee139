import Derived.Test.Qxb6600752aPb
namespace Go.Proofs.Qxb6600752a
namespace Ev
variable (E : Ev)

/-- A transaction's events; the events in the order of the transactions ps. -/
def blk (y : Nat) : List Nat := (List.range E.m).filter fun j => E.x j == y
def ser (ps : List Nat) : List Nat := ps.flatMap E.blk
/-- The writes of t by y. -/
def W (y : Nat) (t : ByteArray) : Nat := (E.H E.m).cnt y t

theorem w_filter (y : Nat) (t : ByteArray) (L : List Nat) : E.w y t (L.filter fun j => E.x j == y) = E.w y t L := by
  unfold w
  rw [List.countP_filter]
  congr 1
  funext j
  cases E.isW j <;> cases (E.x j == y) <;> simp
theorem w_other {y z : Nat} (h : y ≠ z) (t : ByteArray) (L : List Nat) : E.w y t (L.filter fun j => E.x j == z) = 0 := by
  unfold w
  rw [List.countP_eq_zero]
  intro j hj
  rw [List.mem_filter] at hj
  have : E.x j = z := by simpa using hj.2
  simp [this, Ne.symm h]

/-- An order: each transaction once. -/
structure Perm (pm : List Nat) : Prop where
  len : pm.length = E.n
  lt : ∀ k, k < E.n → pm.getD k 0 < E.n
  inj : ∀ j k, j < E.n → k < E.n → pm.getD j 0 = pm.getD k 0 → j = k
  sur : ∀ y, y < E.n → ∃ j, j < E.n ∧ pm.getD j 0 = y

variable {E} {pm : List Nat}
def Sp (E : Ev) (pm : List Nat) (k : Nat) : RS := E.run E.init (E.ser (pm.take k))
theorem take_snoc (h : Perm E pm) {k : Nat} (hk : k < E.n) : pm.take (k + 1) = pm.take k ++ [pm.getD k 0] := by
  have hl : k < pm.length := by rw [h.len]; exact hk
  rw [List.take_succ_eq_append_getElem hl]
  simp [List.getD, hl]
theorem sp_succ (h : Perm E pm) {k : Nat} (hk : k < E.n) : Sp E pm (k + 1) = E.run (Sp E pm k) (E.blk (pm.getD k 0)) := by
  unfold Sp
  rw [take_snoc h hk, ser, List.flatMap_append, run_append]
  simp [ser]
theorem sp_cnt0 (h : Perm E pm) (y : Nat) (t : ByteArray) : ∀ k, k ≤ E.n → (∀ j, j < k → pm.getD j 0 ≠ y) → (Sp E pm k).cnt y t = 0
  | 0, _, _ => rfl
  | k + 1, hk, hn => by
    rw [sp_succ h (by omega), run_cnt, sp_cnt0 h y t k (by omega) (fun j hj => hn j (by omega))]
    have : y ≠ pm.getD k 0 := Ne.symm (hn k (by omega))
    rw [blk, E.w_other this]
theorem blk_x (y : Nat) : ∀ j ∈ E.blk y, E.x j = y := fun j hj => by
  rw [blk, List.mem_filter] at hj
  simpa using hj.2
/-- The last write of t, when the first k transactions have run. -/
theorem sp_last (h : Perm E pm) (t : ByteArray) : ∀ k, k ≤ E.n → ((Sp E pm k).last t = none ∧ ∀ j, j < k → E.W (pm.getD j 0) t = 0) ∨ ∃ j, j < k ∧ (Sp E pm k).last t = some (pm.getD j 0, E.W (pm.getD j 0) t) ∧ 0 < E.W (pm.getD j 0) t ∧ ∀ l, j < l → l < k → E.W (pm.getD l 0) t = 0
  | 0, _ => .inl ⟨rfl, fun j hj => by omega⟩
  | k + 1, hk => by
    have hw : E.w (pm.getD k 0) t (E.blk (pm.getD k 0)) = E.W (pm.getD k 0) t := by rw [blk, w_filter, W, H_cnt]
    have h0 := sp_cnt0 h (pm.getD k 0) t k (by omega) (fun j hj e => by have := h.inj j k (by omega) (by omega) e; omega)
    have hl : (Sp E pm (k + 1)).last t = if E.W (pm.getD k 0) t = 0 then (Sp E pm k).last t else some (pm.getD k 0, E.W (pm.getD k 0) t) := by
      rw [sp_succ h (by omega), E.run_blk (pm.getD k 0) t _ _ (blk_x _), hw, h0, Nat.zero_add]
    rw [hl]
    by_cases hz : E.W (pm.getD k 0) t = 0
    · rw [if_pos hz]
      rcases sp_last h t k (by omega) with ⟨a, b⟩ | ⟨j, hj, a, b, c⟩
      · refine .inl ⟨a, fun j hj => ?_⟩
        by_cases e : j = k
        · subst e; exact hz
        · exact b j (by omega)
      · refine .inr ⟨j, by omega, a, b, fun l h1 h2 => ?_⟩
        by_cases e : l = k
        · subst e; exact hz
        · exact c l h1 (by omega)
    · rw [if_neg hz]
      exact .inr ⟨k, by omega, rfl, by omega, fun l h1 h2 => by omega⟩
theorem sp_all (h : Perm E pm) : Sp E pm E.n = E.run E.init (E.ser pm) := by
  unfold Sp
  rw [← h.len, List.take_length]
/-- What a read sees in the serial order. -/
theorem ser_src (h : Perm E pm) {i k : Nat} (hi : i < E.m) (hr : E.isR i = true) (hk : k < E.n) (hx : E.x i = pm.getD k 0) :
    (E.run E.init (E.ser pm)).src.getD i (0, 0) = widOf (if (E.H i).cnt (E.x i) (E.s i) = 0 then (Sp E pm k).last (E.s i) else some (E.x i, (E.H i).cnt (E.x i) (E.s i))) := by
  obtain ⟨R, h1, h2⟩ := range_split hi
  have hkl : k < pm.length := by rw [h.len]; exact hk
  have hpm : pm = pm.take k ++ (E.x i) :: pm.drop (k + 1) := by
    conv => lhs; rw [← List.take_append_drop k pm]
    rw [List.drop_eq_getElem_cons hkl, hx]
    simp [List.getD, hkl]
  have hb : E.blk (E.x i) = (List.range i).filter (fun j => E.x j == E.x i) ++ i :: R.filter (fun j => E.x j == E.x i) := by
    rw [blk, h1, List.filter_append, List.filter_cons_of_pos (by simp)]
  have hs : E.ser pm = (E.ser (pm.take k) ++ (List.range i).filter (fun j => E.x j == E.x i)) ++ i :: (R.filter (fun j => E.x j == E.x i) ++ E.ser (pm.drop (k + 1))) := by
    conv => lhs; rw [hpm]
    unfold ser
    rw [List.flatMap_append, List.flatMap_cons, hb]
    simp
  rw [hs, E.src_at hi hr, run_append]
  · have e := E.run_blk (E.x i) (E.s i) ((List.range i).filter (fun j => E.x j == E.x i)) (E.run E.init (E.ser (pm.take k))) (fun j hj => by rw [List.mem_filter] at hj; simpa using hj.2)
    rw [e, w_filter, ← H_cnt]
    have h0 := sp_cnt0 h (E.x i) (E.s i) k (by omega) (fun j hj e => by rw [hx] at e; have := h.inj j k (by omega) (by omega) e; omega)
    unfold Sp at h0
    rw [h0, Nat.zero_add]
    rfl
  · intro hm
    rcases List.mem_append.1 hm with hm | hm
    · rw [List.mem_filter] at hm
      exact h2 hm.1
    · unfold ser at hm
      rw [List.mem_flatMap] at hm
      obtain ⟨y, hy, hm⟩ := hm
      have hxy := blk_x y i hm
      rw [List.mem_drop_iff_getElem] at hy
      obtain ⟨j, hj, e⟩ := hy
      have hj2 : k + 1 + j < pm.length := by omega
      have e2 : pm.getD (k + 1 + j) 0 = y := by rw [← e]; simp only [List.getD, List.getElem?_eq_getElem hj2, Option.getD_some]
      have := h.inj (k + 1 + j) k (by rw [h.len] at hj2; exact hj2) hk (by rw [e2, ← hx, hxy])
      omega
end Ev
end Go.Proofs.Qxb6600752a
