import Derived.Test.Qxb6600752aVd
namespace Go.Proofs.Qxb6600752a

/-- A history's columns. -/
structure Ev where
  n : Nat
  ev : List Nat
  ac : List Nat
  ss : List ByteArray
  cm : List Bool
namespace Ev
variable (E : Ev)
def x (i : Nat) : Nat := E.ev.getD i 0 % E.n
def s (i : Nat) : ByteArray := E.ss.getD i ByteArray.empty
def m : Nat := E.ev.length
def isW (i : Nat) : Bool := E.cm.getD (E.x i) false && (E.ac.getD i 0 % 4 == 1)
def isR (i : Nat) : Bool := E.cm.getD (E.x i) false && (E.ac.getD i 0 % 4 == 0)
def step : RS → Nat → RS := rStep E.n E.ev E.ac E.ss E.cm
def run (S : RS) (L : List Nat) : RS := L.foldl E.step S
def init : RS := rInit E.ev.length
/-- The writes of t by y in L. -/
def w (y : Nat) (t : ByteArray) (L : List Nat) : Nat := L.countP fun j => E.isW j && (E.x j == y) && decide (E.s j = t)

theorem step_w {i : Nat} (h : E.isW i = true) (S : RS) : E.step S i = S.put (E.x i) (E.s i) := by
  simp only [isW, Bool.and_eq_true, beq_iff_eq] at h
  unfold step rStep
  show (if E.cm.getD (E.x i) false = true then _ else _) = _
  rw [if_pos h.1, if_neg (by omega), if_pos h.2]
  rfl
theorem step_r {i : Nat} (h : E.isR i = true) (S : RS) : E.step S i = S.get i (E.s i) := by
  simp only [isR, Bool.and_eq_true, beq_iff_eq] at h
  unfold step rStep
  show (if E.cm.getD (E.x i) false = true then _ else _) = _
  rw [if_pos h.1, if_pos h.2]
  rfl
theorem step_o {i : Nat} (h1 : E.isW i = false) (h2 : E.isR i = false) (S : RS) : E.step S i = S := by
  unfold step rStep
  show (if E.cm.getD (E.x i) false = true then _ else _) = _
  by_cases hc : E.cm.getD (E.x i) false = true
  · simp only [isW, hc, Bool.true_and, beq_eq_false_iff_ne] at h1
    simp only [isR, hc, Bool.true_and, beq_eq_false_iff_ne] at h2
    rw [if_pos hc, if_neg h2, if_neg h1]
  · rw [if_neg hc]
theorem w_not_r {i : Nat} (h : E.isW i = true) : E.isR i = false := by
  simp only [isW, Bool.and_eq_true, beq_iff_eq] at h
  unfold isR
  rw [h.1, h.2]
  rfl
theorem run_append (S : RS) (L M : List Nat) : E.run S (L ++ M) = E.run (E.run S L) M := List.foldl_append
theorem run_cons (S : RS) (i : Nat) (L : List Nat) : E.run S (i :: L) = E.run (E.step S i) L := rfl
theorem w_cons (y : Nat) (t : ByteArray) (i : Nat) (L : List Nat) : E.w y t (i :: L) = E.w y t L + (if E.isW i = true ∧ E.x i = y ∧ E.s i = t then 1 else 0) := by
  unfold w
  rw [List.countP_cons]
  simp only [Bool.and_eq_true, beq_iff_eq, decide_eq_true_eq, and_assoc]

/-- One step, cell by cell. -/
theorem step_cnt (S : RS) (i y : Nat) (t : ByteArray) : (E.step S i).cnt y t = S.cnt y t + (if E.isW i = true ∧ E.x i = y ∧ E.s i = t then 1 else 0) := by
  by_cases hw : E.isW i = true
  · rw [E.step_w hw]
    simp only [RS.put]
    by_cases e : y = E.x i ∧ t = E.s i
    · obtain ⟨rfl, rfl⟩ := e
      simp [hw]
    · rw [if_neg e, if_neg (fun h => e ⟨h.2.1.symm, h.2.2.symm⟩)]
      rfl
  · have hw2 : E.isW i = false := by simpa using hw
    by_cases hr : E.isR i = true
    · rw [E.step_r hr]
      simp [RS.get, hw]
    · rw [E.step_o hw2 (by simpa using hr)]
      simp [hw]
theorem step_last (S : RS) (i : Nat) (t : ByteArray) : (E.step S i).last t = if E.isW i = true ∧ E.s i = t then some (E.x i, S.cnt (E.x i) t + 1) else S.last t := by
  by_cases hw : E.isW i = true
  · rw [E.step_w hw]
    simp only [RS.put]
    by_cases e : t = E.s i
    · subst e
      simp [hw]
    · rw [if_neg e, if_neg (fun h => e h.2.symm)]
  · have hw2 : E.isW i = false := by simpa using hw
    rw [if_neg (fun h => hw h.1)]
    by_cases hr : E.isR i = true
    · rw [E.step_r hr]
      rfl
    · rw [E.step_o hw2 (by simpa using hr)]
theorem step_src (S : RS) {i j : Nat} (h : j ≠ i) : (E.step S i).src.getD j (0, 0) = S.src.getD j (0, 0) := by
  by_cases hw : E.isW i = true
  · rw [E.step_w hw]
    rfl
  · by_cases hr : E.isR i = true
    · rw [E.step_r hr]
      simp [RS.get, List.getD, List.getElem?_set_ne (Ne.symm h)]
    · rw [E.step_o (by simpa using hw) (by simpa using hr)]
theorem step_len (S : RS) (i : Nat) : (E.step S i).src.length = S.src.length := rStep_len _ _ _ _ _ _ _

theorem run_cnt (y : Nat) (t : ByteArray) : ∀ (L : List Nat) (S : RS), (E.run S L).cnt y t = S.cnt y t + E.w y t L
  | [], S => rfl
  | i :: L, S => by
    rw [run_cons, run_cnt y t L, step_cnt, w_cons]
    omega
theorem run_len : ∀ (L : List Nat) (S : RS), (E.run S L).src.length = S.src.length
  | [], S => rfl
  | i :: L, S => by rw [run_cons, run_len L, step_len]
theorem run_src {j : Nat} : ∀ (L : List Nat) (S : RS), j ∉ L → (E.run S L).src.getD j (0, 0) = S.src.getD j (0, 0)
  | [], S, _ => rfl
  | i :: L, S, h => by
    rw [run_cons, run_src L _ (fun e => h (by simp [e])), step_src _ _ (fun e => h (by simp [e]))]
/-- A stretch of one transaction's events. -/
theorem run_blk (y : Nat) (t : ByteArray) : ∀ (L : List Nat) (S : RS), (∀ j ∈ L, E.x j = y) → (E.run S L).last t = if E.w y t L = 0 then S.last t else some (y, S.cnt y t + E.w y t L)
  | [], S, _ => rfl
  | i :: L, S, h => by
    have hx : E.x i = y := h i (by simp)
    rw [run_cons, run_blk y t L _ (fun j hj => h j (by simp [hj])), step_cnt, step_last, w_cons]
    have he2 : (E.isW i = true ∧ E.x i = y ∧ E.s i = t) ↔ (E.isW i = true ∧ E.s i = t) := ⟨fun h => ⟨h.1, h.2.2⟩, fun h => ⟨h.1, hx, h.2⟩⟩
    simp only [he2]
    by_cases e : E.isW i = true ∧ E.s i = t
    · simp only [if_pos e, hx]
      by_cases h0 : E.w y t L = 0
      · rw [if_pos h0, h0]
        simp
      · rw [if_neg h0, if_neg (by omega)]
        congr 2
        omega
    · simp only [if_neg e]
      rfl
/-- What a read sees. -/
theorem src_at {P Q : List Nat} {i : Nat} (hi : i < E.m) (hr : E.isR i = true) (hq : i ∉ Q) : (E.run E.init (P ++ i :: Q)).src.getD i (0, 0) = widOf ((E.run E.init P).last (E.s i)) := by
  rw [run_append, run_cons, run_src E _ _ hq, E.step_r hr]
  have hl : i < (E.run E.init P).src.length := by rw [run_len]; simpa [init, rInit, m] using hi
  simp [RS.get, List.getD, hl]

/-- The history's state after k events. -/
def H (k : Nat) : RS := E.run E.init (List.range k)
theorem H_succ (k : Nat) : E.H (k + 1) = E.step (E.H k) k := by
  unfold H
  rw [List.range_succ, run_append]
  rfl
theorem H_cnt (k y : Nat) (t : ByteArray) : (E.H k).cnt y t = E.w y t (List.range k) := by
  unfold H
  rw [run_cnt]
  simp [init, rInit]
theorem H_last (t : ByteArray) : ∀ k, match (E.H k).last t with
    | some p => p.2 = (E.H k).cnt p.1 t ∧ 0 < p.2
    | none => ∀ y, (E.H k).cnt y t = 0
  | 0 => fun _ => rfl
  | k + 1 => by
    have ih := H_last t k
    rw [H_succ, step_last]
    by_cases e : E.isW k = true ∧ E.s k = t
    · rw [if_pos e]
      show _ = _ ∧ _
      rw [step_cnt, if_pos ⟨e.1, rfl, e.2⟩]
      exact ⟨rfl, Nat.succ_pos _⟩
    · rw [if_neg e]
      have hc : ∀ y, (E.step (E.H k) k).cnt y t = (E.H k).cnt y t := fun y => by rw [step_cnt, if_neg (fun h => e ⟨h.1, h.2.2⟩)]; rfl
      cases hl : (E.H k).last t with
      | none =>
        rw [hl] at ih
        exact fun y => (hc y).trans (ih y)
      | some p =>
        rw [hl] at ih
        exact ⟨ih.1.trans (hc p.1).symm, ih.2⟩
theorem H_some {t : ByteArray} {k : Nat} {p : Nat × Nat} (h : (E.H k).last t = some p) : p.2 = (E.H k).cnt p.1 t ∧ 0 < p.2 := by
  have := E.H_last t k
  rw [h] at this
  exact this
theorem H_none {t : ByteArray} {k : Nat} (h : (E.H k).last t = none) (y : Nat) : (E.H k).cnt y t = 0 := by
  have := E.H_last t k
  rw [h] at this
  exact this y
theorem w_mono (y : Nat) (t : ByteArray) {k l : Nat} (h : k ≤ l) : E.w y t (List.range k) ≤ E.w y t (List.range l) := by
  unfold w
  exact List.Sublist.countP_le (List.range_sublist.2 h)
theorem range_split {i m : Nat} (h : i < m) : ∃ R, List.range m = List.range i ++ i :: R ∧ i ∉ R := by
  refine ⟨(List.range m).drop (i + 1), ?_, ?_⟩
  · have h1 := (List.take_append_drop i (List.range m)).symm
    rw [List.take_range, Nat.min_eq_left (by omega)] at h1
    rw [List.drop_eq_getElem_cons (by simpa using h)] at h1
    simpa using h1
  · intro hm
    rw [List.mem_drop_iff_getElem] at hm
    obtain ⟨j, hj, e⟩ := hm
    simp at e
    omega
theorem H_src {i : Nat} (hi : i < E.m) (hr : E.isR i = true) : (E.H E.m).src.getD i (0, 0) = widOf ((E.H i).last (E.s i)) := by
  obtain ⟨R, h1, h2⟩ := range_split hi
  unfold H
  rw [h1]
  exact E.src_at hi hr h2
end Ev
end Go.Proofs.Qxb6600752a
