import Derived.Test.Qxb6600752aKeys
namespace Go.Proofs.Qxb6600752a
open Go.RowKit Go.Maps

/-- A row of pairs, cell by cell. -/
def Pl : List (Int × Int) → List Value
  | [] => []
  | p :: ps => .int .i64 p.1 :: .int .i64 p.2 :: Pl ps
theorem Pl_length : ∀ ps : List (Int × Int), (Pl ps).length = ps.length * 2
  | [] => rfl
  | p :: ps => by simp only [Pl, List.length_cons, Pl_length ps]; omega
theorem Pl_append : ∀ (ps qs : List (Int × Int)), Pl (ps ++ qs) = Pl ps ++ Pl qs
  | [], _ => rfl
  | p :: ps, qs => by simp only [List.cons_append, Pl, Pl_append ps qs]
theorem Pl_at : ∀ (ps : List (Int × Int)) (i : Nat), i < ps.length → (Pl ps)[i * 2]? = some (.int .i64 (ps.getD i (0, 0)).1) ∧ (Pl ps)[i * 2 + 1]? = some (.int .i64 (ps.getD i (0, 0)).2)
  | [], i, h => by simp at h
  | p :: ps, 0, _ => by simp [Pl, List.getD]
  | p :: ps, i + 1, h => by
    have ih := Pl_at ps i (by simpa using h)
    have e1 : (i + 1) * 2 = i * 2 + 1 + 1 := by omega
    simp only [Pl, e1, List.getElem?_cons_succ, List.getD]
    simpa [List.getD] using ih
theorem Pl_set : ∀ (ps : List (Int × Int)) (k : Nat) (a b : Int), k < ps.length → ((Pl ps).set (k * 2) (.int .i64 a)).set (k * 2 + 1) (.int .i64 b) = Pl (ps.set k (a, b))
  | [], k, _, _, h => by simp at h
  | p :: ps, 0, a, b, _ => by simp [Pl]
  | p :: ps, k + 1, a, b, h => by
    have ih := Pl_set ps k a b (by simpa using h)
    have e1 : (k + 1) * 2 = k * 2 + 1 + 1 := by omega
    simp only [Pl, e1, List.set_cons_succ, ih]
theorem Pl_one (ps : List (Int × Int)) : ∀ u ∈ Pl ps, u.oneCell' = true := by
  induction ps with
  | nil => intro u hu; simp [Pl] at hu
  | cons p ps ih =>
    intro u hu
    simp only [Pl, List.mem_cons] at hu
    rcases hu with rfl | rfl | hu
    · rfl
    · rfl
    · exact ih u hu
theorem pl_zero (n : Nat) : (madeCells #[Value.int .i64 0, Value.int .i64 0] (n * 2)).toList = Pl (List.replicate n (0, 0)) := by
  apply List.ext_getElem?
  intro j
  by_cases hj : j < n * 2
  · have hi : j / 2 < (List.replicate n ((0 : Int), (0 : Int))).length := by simp; omega
    have h1 := Pl_at _ (j / 2) hi
    have hg : (List.replicate n ((0 : Int), (0 : Int))).getD (j / 2) (0, 0) = (0, 0) := by simp [List.getD, show j / 2 < n by omega]
    rw [hg] at h1
    by_cases hp : j % 2 = 0
    · have e : j / 2 * 2 = j := by omega
      rw [e] at h1
      rw [h1.1]
      simp [madeCells, hj, hp]
    · have e : j / 2 * 2 + 1 = j := by omega
      have e2 : j % 2 = 1 := by omega
      rw [e] at h1
      rw [h1.2]
      simp [madeCells, hj, e2]
  · rw [List.getElem?_eq_none (by simp [madeCells]; omega), List.getElem?_eq_none (by rw [Pl_length]; simp; omega)]

/-- Two stores into a row of pairs. -/
theorem pstored {w : World} {base g n c : Nat} {e : TypeId} {ps : List (Int × Int)} (h : w.ownsRow base e 2 (.slice (some ⟨g, 0, none⟩) n c) n (Pl ps)) (j : Nat) (a b : Int) (hj : j < ps.length) :
    ((w.setCell ⟨g, j * 2, none⟩ (.int .i64 a)).setCell ⟨g, j * 2 + 1, none⟩ (.int .i64 b)).ownsRow base e 2 (.slice (some ⟨g, 0, none⟩) n c) n (Pl (ps.set j (a, b))) ∧
      w.grownBy ((w.setCell ⟨g, j * 2, none⟩ (.int .i64 a)).setCell ⟨g, j * 2 + 1, none⟩ (.int .i64 b)) (some g) := by
  have h1 := h.stored (j * 2) (.int .i64 a)
  have h2 := h1.1.stored (j * 2 + 1) (.int .i64 b)
  rw [Pl_set ps j a b hj] at h2
  exact ⟨h2.1, grownBy_trans h1.2 h2.2 (.inl rfl)⟩


/-- What replay keeps: the sources, the last write of each item, the writes of each transaction of each item. -/
structure RS where
  src : List (Int × Int)
  last : ByteArray → Option (Nat × Nat)
  cnt : Nat → ByteArray → Nat
def rInit (m : Nat) : RS := ⟨List.replicate m (0, 0), fun _ => none, fun _ _ => 0⟩
def widOf : Option (Nat × Nat) → Int × Int
  | some p => ((p.1 : Int), (p.2 : Int))
  | none => (-1, 0)
/-- A write of s by x. -/
def RS.put (S : RS) (x : Nat) (s : ByteArray) : RS := { S with cnt := fun y t => if y = x ∧ t = s then S.cnt x s + 1 else S.cnt y t, last := fun t => if t = s then some (x, S.cnt x s + 1) else S.last t }
/-- A read of s at i. -/
def RS.get (S : RS) (i : Nat) (s : ByteArray) : RS := { S with src := S.src.set i (widOf (S.last s)) }
def rStep (n : Nat) (ev ac : List Nat) (ss : List ByteArray) (cm : List Bool) (S : RS) (i : Nat) : RS :=
  if cm.getD (ev.getD i 0 % n) false = true then
    if ac.getD i 0 % 4 = 0 then S.get i (ss.getD i ByteArray.empty)
    else if ac.getD i 0 % 4 = 1 then S.put (ev.getD i 0 % n) (ss.getD i ByteArray.empty)
    else S
  else S
def rRun (n : Nat) (ev ac : List Nat) (ss : List ByteArray) (cm : List Bool) (sq : List Nat) : RS := sq.foldl (rStep n ev ac ss cm) (rInit ev.length)

theorem rStep_len (n : Nat) (ev ac : List Nat) (ss : List ByteArray) (cm : List Bool) (S : RS) (i : Nat) : (rStep n ev ac ss cm S i).src.length = S.src.length := by
  unfold rStep
  split
  · split
    · simp [RS.get]
    · split
      · rfl
      · rfl
  · rfl

/-- The two maps, as the model sees them. -/
def lastF (l : ByteArray → Option (Nat × Nat)) (v : Value) : Option Value :=
  match v with
  | .string s => (l s).map fun p => .agg #[.int .i64 (p.1 : Int), .int .i64 (p.2 : Int)]
  | _ => none
abbrev kv (x : Nat) (s : ByteArray) : Value := .agg #[.int .i64 (x : Int), .string s]
def Cnt (c : Nat → ByteArray → Nat) (f : Value → Option Value) : Prop := ∀ x s, (f (kv x s)).getD (.int .i64 0) = .int .i64 (c x s : Int)
theorem lastF_some {l : ByteArray → Option (Nat × Nat)} {s : ByteArray} {p : Nat × Nat} (h : l s = some p) : lastF l (.string s) = some (.agg #[.int .i64 (p.1 : Int), .int .i64 (p.2 : Int)]) := by simp [lastF, h]
theorem lastF_none {l : ByteArray → Option (Nat × Nat)} {s : ByteArray} (h : l s = none) : lastF l (.string s) = none := by simp [lastF, h]

theorem zero58 (w : World) : (zeroValue 58).run Try.prog w = .ok (.agg #[.int .i64 0, .int .i64 0]) w := by kernel_rfl
theorem zero3 (w : World) : (zeroValue 3).run Try.prog w = .ok (.int .i64 0) w := by kernel_rfl
theorem info58 : (Try.prog.info? 58).map (fun i => (i.zero, i.size, i.bytes)) = some (some (.agg #[.int .i64 0, .int .i64 0]), 2, 16) := by kernel_rfl
end Go.Proofs.Qxb6600752a
