import Derived.Test.Qxb6600752aPd
namespace Go.Proofs.Qxb6600752a
namespace Ev
variable (E : Ev)

theorem filter_two (L : List Nat) (p : Nat → Bool) : (L.filter p).length + (L.filter fun j => !p j).length = L.length := by
  induction L with
  | nil => rfl
  | cons i L ih =>
    cases h : p i
    · rw [List.filter_cons_of_neg (by simp [h]), List.filter_cons_of_pos (by simp [h])]
      simp only [List.length_cons]
      omega
    · rw [List.filter_cons_of_pos (by simp [h]), List.filter_cons_of_neg (by simp [h])]
      simp only [List.length_cons]
      omega
theorem flat_len : ∀ (ps : List Nat) (L : List Nat), ps.Nodup → (ps.flatMap fun y => L.filter fun j => E.x j == y).length ≤ L.length
  | [], L, _ => by simp
  | y :: ps, L, hd => by
    have hd2 := List.nodup_cons.1 hd
    have ih := flat_len ps (L.filter fun j => !(E.x j == y)) hd2.2
    have e : (ps.flatMap fun z => L.filter fun j => E.x j == z) = ps.flatMap fun z => (L.filter fun j => !(E.x j == y)).filter fun j => E.x j == z := by
      have : ∀ qs : List Nat, y ∉ qs → (qs.flatMap fun z => L.filter fun j => E.x j == z) = qs.flatMap fun z => (L.filter fun j => !(E.x j == y)).filter fun j => E.x j == z := by
        intro qs
        induction qs with
        | nil => intro _; rfl
        | cons z qs ih2 =>
          intro hq
          rw [List.flatMap_cons, List.flatMap_cons, ih2 (fun h => hq (by simp [h])), List.filter_filter]
          congr 1
          apply List.filter_congr
          intro j _
          have hzy : z ≠ y := fun e => hq (by simp [e])
          by_cases h : E.x j = z
          · simp [h, hzy]
          · simp [h]
      exact this ps hd2.1
    rw [List.flatMap_cons, List.length_append, e]
    have := filter_two L (fun j => E.x j == y)
    omega
theorem ser_len {ps : List Nat} (hd : ps.Nodup) : (E.ser ps).length ≤ E.m := by
  have := E.flat_len ps (List.range E.m) hd
  simpa [ser, blk] using this
theorem ser_lt {ps : List Nat} : ∀ i ∈ E.ser ps, i < E.m := fun i hi => by
  unfold ser at hi
  rw [List.mem_flatMap] at hi
  obtain ⟨y, _, h⟩ := hi
  rw [blk, List.mem_filter] at h
  exact List.mem_range.1 h.1
/-- The serial order, while it is being laid. -/
def sq (pm : List Nat) (k i : Nat) : List Nat := E.ser (pm.take k) ++ (List.range i).filter fun j => E.x j == pm.getD k 0
theorem sq_zero (pm : List Nat) (k : Nat) : E.sq pm k 0 = E.ser (pm.take k) := by simp [sq]
theorem sq_hit {pm : List Nat} {k i : Nat} (h : E.x i = pm.getD k 0) : E.sq pm k (i + 1) = E.sq pm k i ++ [i] := by
  unfold sq
  rw [List.range_succ, List.filter_append, List.filter_cons_of_pos (by simpa using h)]
  simp
theorem sq_miss {pm : List Nat} {k i : Nat} (h : E.x i ≠ pm.getD k 0) : E.sq pm k (i + 1) = E.sq pm k i := by
  unfold sq
  rw [List.range_succ, List.filter_append, List.filter_cons_of_neg (by simpa using h)]
  simp
theorem sq_end {pm : List Nat} {k : Nat} (h : k < pm.length) : E.sq pm k E.m = E.ser (pm.take (k + 1)) := by
  unfold sq
  rw [List.take_succ_eq_append_getElem h]
  unfold ser
  rw [List.flatMap_append]
  simp [blk, h]
theorem sq_len {pm : List Nat} (hd : pm.Nodup) (k i : Nat) : (E.sq pm k i).length ≤ E.m + i := by
  unfold sq
  rw [List.length_append]
  have h1 := E.ser_len (ps := pm.take k) (List.Sublist.nodup (List.take_sublist _ _) hd)
  have h2 := List.length_filter_le (fun j => E.x j == pm.getD k 0) (List.range i)
  simp only [List.length_range] at h2
  omega

/-- The law's own comparison, event by event. -/
def eqAt (A B : RS) (i : Nat) : Bool := (!E.isR i || decide (A.src.getD i (0, 0) = B.src.getD i (0, 0))) && (!E.isW i || decide ((lw (A.last (E.s i))).1 = (lw (B.last (E.s i))).1))
def eqTo (A B : RS) : Nat → Bool
  | 0 => true
  | k + 1 => eqTo A B k && E.eqAt A B k
theorem eqTo_iff (A B : RS) : ∀ k, E.eqTo A B k = true ↔ ∀ i, i < k → E.eqAt A B i = true
  | 0 => by simp [eqTo]
  | k + 1 => by
    rw [eqTo, Bool.and_eq_true, eqTo_iff A B k]
    constructor
    · rintro ⟨h1, h2⟩ i hi
      by_cases e : i = k
      · subst e; exact h2
      · exact h1 i (by omega)
    · intro h
      exact ⟨fun i hi => h i (by omega), h k (by omega)⟩
theorem eqv_iff (pm : List Nat) : E.eqTo (E.H E.m) (E.run E.init (E.ser pm)) E.m = true ↔ Eqv E pm := by
  rw [eqTo_iff]
  unfold Eqv eqAt
  simp only [Bool.and_eq_true, Bool.or_eq_true, Bool.not_eq_true', decide_eq_true_eq]
  constructor
  · intro h i hi
    obtain ⟨h1, h2⟩ := h i hi
    exact ⟨fun e => h1.resolve_left (by simp [e]), fun e => h2.resolve_left (by simp [e])⟩
  · intro h i hi
    obtain ⟨h1, h2⟩ := h i hi
    refine ⟨?_, ?_⟩
    · cases e : E.isR i
      · exact .inl rfl
      · exact .inr (h1 e)
    · cases e : E.isW i
      · exact .inl rfl
      · exact .inr (h2 e)
theorem lw_agg (l : ByteArray → Option (Nat × Nat)) (t : ByteArray) : (lastF l (.string t)).getD (.agg #[.int .i64 0, .int .i64 0]) = .agg #[.int .i64 (lw (l t)).1, .int .i64 (lw (l t)).2] := by
  cases h : l t with
  | none => rw [lastF_none h]; rfl
  | some p => rw [lastF_some h]; rfl
end Ev
end Go.Proofs.Qxb6600752a
