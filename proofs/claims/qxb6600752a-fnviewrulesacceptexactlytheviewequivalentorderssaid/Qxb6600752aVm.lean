import Derived.Test.Qxb6600752aBuild
import Derived.Test.Qxb6600752aMay
namespace Go.Proofs.Qxb6600752a
open Go.RowKit Go.Maps

/-- What viewRulesOf keeps. -/
structure VS where
  rs : RS
  wr : ByteArray → Nat
  fi : ByteArray → Nat
  rd : List ((Nat × Nat) × Nat × ByteArray)
def vInit : VS := ⟨rInit 0, fun _ => 0, fun _ => 0, []⟩
def VS.put (S : VS) (x : Nat) (s : ByteArray) : VS := { S with rs := S.rs.put x s, wr := fun t => if t = s then S.wr s ||| 2 ^ x else S.wr t }
def VS.first (S : VS) (x : Nat) (s : ByteArray) : VS := { S with fi := fun t => if t = s then S.fi s ||| 2 ^ x else S.fi t }
def VS.read (S : VS) (p : Nat × Nat) (x : Nat) (s : ByteArray) : VS := { S with rd := S.rd ++ [(p, x, s)] }
def vGet (S : VS) (x : Nat) (s : ByteArray) : Option VS :=
  match S.rs.last s with
  | none => some (S.first x s)
  | some p => if p.1 = x then some S else if 0 < S.rs.cnt x s then none else some (S.read p x s)
def vStep (S : VS) (c : Bool) (x a : Nat) (s : ByteArray) : Option VS :=
  if c = true then (if a = 0 then vGet S x s else if a = 1 then some (S.put x s) else some S) else some S
/-- After k events: xi tells each event's transaction. -/
def vTo (es : List (Int × Nat × ByteArray)) (cm : Int → Bool) (xi : Nat → Nat) : Nat → Option VS
  | 0 => some vInit
  | k + 1 => (vTo es cm xi k).bind fun S => match es[k]? with
    | some e => vStep S (cm e.1) (xi k) e.2.1 e.2.2
    | none => some S
theorem vTo_none {es : List (Int × Nat × ByteArray)} {cm : Int → Bool} {xi : Nat → Nat} {k : Nat} (h : vTo es cm xi k = none) : ∀ m, k ≤ m → vTo es cm xi m = none
  | 0, hm => by
    have : k = 0 := by omega
    subst this
    exact h
  | m + 1, hm => by
    by_cases e : k = m + 1
    · subst e
      exact h
    · simp [vTo, vTo_none h m (by omega)]

/-- A map of words. -/
def Wd (c : ByteArray → Nat) (f : Value → Option Value) : Prop := ∀ s, (f (.string s)).getD (.int .u64 0) = .int .u64 (c s : Int)
/-- .. whose keys are those with a word that is not nought. -/
def Wk (c : ByteArray → Nat) (f : Value → Option Value) : Prop := ∀ s, f (.string s) = if c s = 0 then none else some (.int .u64 (c s : Int))
theorem Wk.wd {c : ByteArray → Nat} {f : Value → Option Value} (h : Wk c f) : Wd c f := fun s => by
  rw [h s]
  split
  · rename_i e; simp [e]
  · rfl
theorem wd_put {c : ByteArray → Nat} {f : Value → Option Value} (h : Wd c f) (s : ByteArray) (v : Nat) : Wd (fun t => if t = s then v else c t) (updF f (.string s) (.int .u64 (v : Int))) := by
  intro t
  by_cases e : t = s
  · subst e; rw [updF_same]; simp
  · rw [updF_other _ _ (by simpa using e), h t]; simp [e]
theorem wk_put {c : ByteArray → Nat} {f : Value → Option Value} (h : Wk c f) (s : ByteArray) (v : Nat) (hv : v ≠ 0) : Wk (fun t => if t = s then v else c t) (updF f (.string s) (.int .u64 (v : Int))) := by
  intro t
  by_cases e : t = s
  · subst e; rw [updF_same]; simp [hv]
  · rw [updF_other _ _ (by simpa using e), h t]; simp [e]

/-- A row of reads, cell by cell. -/
def Dl : List ((Nat × Nat) × Nat × ByteArray) → List Value
  | [] => []
  | r :: rs => .int .i64 (r.1.1 : Int) :: .int .i64 (r.1.2 : Int) :: .int .i64 (r.2.1 : Int) :: .string r.2.2 :: Dl rs
theorem Dl_length : ∀ rs, (Dl rs).length = rs.length * 4
  | [] => rfl
  | r :: rs => by simp only [Dl, List.length_cons, Dl_length rs]; omega
theorem Dl_append : ∀ (rs qs : List ((Nat × Nat) × Nat × ByteArray)), Dl (rs ++ qs) = Dl rs ++ Dl qs
  | [], _ => rfl
  | r :: rs, qs => by simp only [List.cons_append, Dl, Dl_append rs qs]
theorem Dl_at : ∀ (rs : List ((Nat × Nat) × Nat × ByteArray)) (i : Nat) (r : (Nat × Nat) × Nat × ByteArray), rs[i]? = some r → (Dl rs)[i * 4]? = some (.int .i64 (r.1.1 : Int)) ∧ (Dl rs)[i * 4 + 1]? = some (.int .i64 (r.1.2 : Int)) ∧ (Dl rs)[i * 4 + 2]? = some (.int .i64 (r.2.1 : Int)) ∧ (Dl rs)[i * 4 + 3]? = some (.string r.2.2)
  | [], i, r, h => by simp at h
  | r0 :: rs, 0, r, h => by simp at h; subst h; simp [Dl]
  | r0 :: rs, i + 1, r, h => by
    have ih := Dl_at rs i r (by simpa using h)
    have e1 : (i + 1) * 4 = i * 4 + 1 + 1 + 1 + 1 := by omega
    have e2 : (i + 1) * 4 + 1 = i * 4 + 1 + 1 + 1 + 1 + 1 := by omega
    have e3 : (i + 1) * 4 + 2 = i * 4 + 2 + 1 + 1 + 1 + 1 := by omega
    have e4 : (i + 1) * 4 + 3 = i * 4 + 3 + 1 + 1 + 1 + 1 := by omega
    rw [e2, e3, e4, e1]
    simp only [Dl, List.getElem?_cons_succ]
    exact ih

theorem zero63 (w : World) : (zeroValue 63).run Try.prog w = .ok (.int .u64 0) w := by kernel_rfl
theorem zero115 (w : World) : (zeroValue 115).run Try.prog w = .ok (.agg #[.int .i64 0, .int .i64 0]) w := by kernel_rfl
theorem info118 : (Try.prog.info? 118).map (fun i => (i.zero, i.size, i.bytes)) = some (some (.agg #[.int .i64 0, .int .i64 0, .int .i64 0, .string ByteArray.empty]), 4, 40) := by kernel_rfl

/-- What the state must keep, for the walk. -/
structure Vok (S : VS) (n k : Nat) : Prop where
  cnt : ∀ x s, S.rs.cnt x s ≤ k
  wr : ∀ s, S.wr s < 18446744073709551616
  fi : ∀ s, S.fi s < 18446744073709551616
  rd : ∀ r ∈ S.rd, r.1.1 < n ∧ r.1.2 ≤ k ∧ r.2.1 < n ∧ r.2.2.size ≤ maxLen
  last : ∀ s p, S.rs.last s = some p → p.1 < n ∧ p.2 ≤ k
  len : S.rd.length ≤ k
theorem Vok.mono {S : VS} {n k : Nat} (h : Vok S n k) : Vok S n (k + 1) :=
  ⟨fun x s => Nat.le_succ_of_le (h.cnt x s), h.wr, h.fi, fun r hr => let ⟨a, b, c, d⟩ := h.rd r hr; ⟨a, Nat.le_succ_of_le b, c, d⟩, fun s p hp => let ⟨a, b⟩ := h.last s p hp; ⟨a, Nat.le_succ_of_le b⟩, Nat.le_succ_of_le h.len⟩
theorem Vok.put {S : VS} {n k : Nat} (h : Vok S n k) {x : Nat} (hx : x < n) (hn : n ≤ 64) (s : ByteArray) : Vok (S.put x s) n (k + 1) := by
  refine ⟨fun y t => ?_, fun t => ?_, h.fi, h.mono.rd, fun t p hp => ?_, h.mono.len⟩
  · have := h.cnt x s
    have := h.cnt y t
    simp only [VS.put, RS.put]
    split <;> omega
  · simp only [VS.put]
    split
    · exact or_lt (h.wr s) (pow_lt64 (by omega))
    · exact h.wr t
  · simp only [VS.put, RS.put] at hp
    split at hp
    · cases hp
      have := h.cnt x s
      exact ⟨hx, by simp; omega⟩
    · exact h.mono.last t p hp
theorem Vok.first {S : VS} {n k : Nat} (h : Vok S n k) {x : Nat} (hx : x < n) (hn : n ≤ 64) (s : ByteArray) : Vok (S.first x s) n (k + 1) := by
  refine ⟨h.mono.cnt, h.wr, fun t => ?_, h.mono.rd, h.mono.last, h.mono.len⟩
  simp only [VS.first]
  split
  · exact or_lt (h.fi s) (pow_lt64 (by omega))
  · exact h.fi t
theorem Vok.read {S : VS} {n k : Nat} (h : Vok S n k) {x : Nat} (hx : x < n) {s : ByteArray} (hs : s.size ≤ maxLen) {p : Nat × Nat} (hp : S.rs.last s = some p) : Vok (S.read p x s) n (k + 1) := by
  refine ⟨h.mono.cnt, h.wr, h.fi, fun r hr => ?_, h.mono.last, ?_⟩
  · simp only [VS.read] at hr
    rcases List.mem_append.1 hr with hr | hr
    · exact h.mono.rd r hr
    · simp at hr
      subst hr
      have := h.last s p hp
      exact ⟨this.1, Nat.le_succ_of_le this.2, hx, hs⟩
  · simp only [VS.read, List.length_append, List.length_singleton]
    have := h.len
    omega
theorem vInit_ok (n : Nat) : Vok vInit n 0 := ⟨fun _ _ => Nat.le_refl _, fun _ => by simp [vInit], fun _ => by simp [vInit], fun r hr => by simp [vInit] at hr, fun s p hp => by simp [vInit, rInit] at hp, by simp [vInit]⟩
end Go.Proofs.Qxb6600752a
