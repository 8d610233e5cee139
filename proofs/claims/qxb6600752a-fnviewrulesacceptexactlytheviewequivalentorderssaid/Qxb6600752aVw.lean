import Derived.Test.Qxb6600752aVm
namespace Go.Proofs.Qxb6600752a
open Go.RowKit Go.Maps

/-- The state S as it lies in memory. -/
structure Vw (W4 wr : World) (B1 B2 B3 B4 bs n k : Nat) (v : Value) (S : VS) : Prop where
  m1 : ∃ f, Cnt S.rs.cnt f ∧ OwnsM wr 113 B1 k f
  m2 : OwnsM wr 9 B2 k (lastF S.rs.last)
  m3 : ∃ f, Wk S.wr f ∧ OwnsM wr 9 B3 k f
  m4 : ∃ f, Wd S.fi f ∧ OwnsM wr 9 B4 k f
  own : wr.ownsRow bs 118 4 v S.rd.length (Dl S.rd)
  kp : Kp W4 wr (fun b => b = B1 ∨ b = B2 ∨ b = B3 ∨ b = B4)
  ok : Vok S n k
  hb : bs ≤ wr.heap.size
  n12 : B1 < B2
  n23 : B2 < B3
  n34 : B3 < B4
  n4 : B4 < bs
  hs : bs = W4.heap.size

section
variable {W4 wr : World} {B1 B2 B3 B4 bs n k : Nat} {v : Value} {S : VS}

theorem Vw.grown (h : Vw W4 wr B1 B2 B3 B4 bs n k v S) {w' : World} (g : wr.grownBy w' none) : Vw W4 w' B1 B2 B3 B4 bs n k v S :=
  ⟨let ⟨f, a, b⟩ := h.m1; ⟨f, a, b.kept g (by simp)⟩, h.m2.kept g (by simp), let ⟨f, a, b⟩ := h.m3; ⟨f, a, b.kept g (by simp)⟩, let ⟨f, a, b⟩ := h.m4; ⟨f, a, b.kept g (by simp)⟩, owns_grown h.own g, h.kp.grown g (fun k h => by cases h), h.ok, Nat.le_trans h.hb g.size, h.n12, h.n23, h.n34, h.n4, h.hs⟩
theorem Vw.next (h : Vw W4 wr B1 B2 B3 B4 bs n k v S) : Vw W4 wr B1 B2 B3 B4 bs n (k + 1) v S :=
  ⟨let ⟨f, a, b⟩ := h.m1; ⟨f, a, b.mono (Nat.le_succ k)⟩, h.m2.mono (Nat.le_succ k), let ⟨f, a, b⟩ := h.m3; ⟨f, a, b.mono (Nat.le_succ k)⟩, let ⟨f, a, b⟩ := h.m4; ⟨f, a, b.mono (Nat.le_succ k)⟩, h.own, h.kp, h.ok.mono, h.hb, h.n12, h.n23, h.n34, h.n4, h.hs⟩
theorem own_ge (h : Vw W4 wr B1 B2 B3 B4 bs n k v S) {b : Nat} (hb : b < bs) : v.ownBlock = none ∨ v.ownBlock ≠ some b := .inr fun e => by have := (h.own.lt _ e).1; omega

theorem or_pow_ne (a x : Nat) : a ||| 2 ^ x ≠ 0 := by
  intro e
  have h : (a ||| 2 ^ x).testBit x = true := by rw [Nat.testBit_or, Nat.testBit_two_pow]; simp
  rw [e, Nat.zero_testBit] at h
  cases h

/-- A write. -/
theorem Vw.put_runs (h : Vw W4 wr B1 B2 B3 B4 bs n k v S) {x : Nat} {s : ByteArray} (hx : x < n) (hn : n ≤ 64) (hs : s.size ≤ maxLen) (hk : k ≤ 4096) :
    ∃ st w2 w3 w4 w5, (Instr.lookup 108 (.map (some B1)) (kv x s) false).run Try.prog wr.drew = .ok (.int .i64 (S.rs.cnt x s : Int)) wr.drew ∧
      (Instr.mapEntry 108 (.map (some B1)) (kv x s)).run Try.prog wr.drew = .ok (.tuple #[.int .i64 (S.rs.cnt x s : Int), goInt st]) w2 ∧ (Instr.lookup 108 (.map (some B1)) (kv x s) false).run Try.prog w2 = .ok (.int .i64 (S.rs.cnt x s : Int)) w2 ∧
      (Instr.entryStore 108 (.map (some B1)) (goInt st) (.int .i64 ((S.rs.cnt x s : Int) + 1))).run Try.prog w2 = .ok () w3 ∧
      (Instr.lookup 108 (.map (some B1)) (kv x s) false).run Try.prog w3.drew = .ok (.int .i64 ((S.rs.cnt x s : Int) + 1)) w3.drew ∧
      (Instr.mapUpdate 109 (.map (some B2)) (.string s) (.agg #[.int .i64 (x : Int), .int .i64 ((S.rs.cnt x s : Int) + 1)])).run Try.prog w3.drew = .ok () w4 ∧
      (Instr.lookup 110 (.map (some B3)) (.string s) false).run Try.prog w4.drew = .ok (.int .u64 (S.wr s : Int)) w4.drew ∧
      (Instr.mapUpdate 110 (.map (some B3)) (.string s) (.int .u64 ((S.wr s ||| 2 ^ x : Nat) : Int))).run Try.prog w4.drew = .ok () w5 ∧
      wr.grownBy w2 (some B1) ∧ wr.grownBy w3 (some B1) ∧ w3.grownBy w4 (some B2) ∧ w4.grownBy w5 (some B3) ∧ Vw W4 w5 B1 B2 B3 B4 bs n (k + 1) v (S.put x s) := by
  have d12 := h.n12
  have d23 := h.n23
  have d34 := h.n34
  have d4 := h.n4
  obtain ⟨f1, hc1, o1⟩ := h.m1
  obtain ⟨kl, hkl⟩ := key113 (wf_i64 (x := x) (by omega)) hs
  obtain ⟨st, w2, w3, w4, r1, r2, r3, r4, r5, r6, g2, g3, g4, f1', hc1', o2', o1'⟩ := Go.Proofs.Qxb6600752a.put_runs law113 Try.underlying108 Try.underlying109 hkl hs (by omega) (show B2 ≠ B1 by omega) hc1 h.m2 o1
  obtain ⟨f3, hw3, o3⟩ := h.m3
  obtain ⟨f4, hw4, o4⟩ := h.m4
  have o3' := (o3.kept g3 (by simp; omega)).kept g4 (by simp; omega)
  have o4' := (o4.kept g3 (by simp; omega)).kept g4 (by simp; omega)
  have o3d : OwnsM w4.drew 9 B3 k f3 := o3'.block rfl
  have l3 := o3d.look keyed9 Try.underlying110 (zero63 _) (key9 hs)
  rw [hw3.wd s] at l3
  obtain ⟨w5, s5, g5, hf5⟩ := o3d.store keyed9 Try.underlying110 (by unfold maxLen; omega) (.int .u64 ((S.wr s ||| 2 ^ x : Nat) : Int)) (key9 hs)
  have g5' : w4.grownBy w5 (some B3) := grownBy_trans (grownBy_drew w4 _) g5 (.inl rfl)
  refine ⟨st, w2, w3, w4, w5, r1, r2, r3, r4, r5, r6, l3, s5, g2, g3, g4, g5', ⟨f1', hc1', o1'.kept g5' (by simp; omega)⟩, o2'.kept g5' (by simp; omega), ⟨_, wk_put hw3 s _ (or_pow_ne _ _), hf5 _ (updF_same _ _ _) (fun key' _ _ hne => updF_other _ _ hne)⟩, ⟨f4, hw4, (o4'.kept g5' (by simp; omega)).mono (Nat.le_succ k)⟩, ((h.own.kept g3 (own_ge h (by omega))).kept g4 (own_ge h (by omega))).kept g5' (own_ge h (by omega)), ((h.kp.grown g3 (fun b e => .inl (.inl (Option.some.inj e).symm))).grown g4 (fun b e => .inl (.inr (.inl (Option.some.inj e).symm)))).grown g5' (fun b e => .inl (.inr (.inr (.inl (Option.some.inj e).symm)))), h.ok.put hx hn s, Nat.le_trans h.hb (Nat.le_trans g3.size (Nat.le_trans g4.size g5'.size)), d12, d23, d34, d4, h.hs⟩

/-- A read of the first value. -/
theorem Vw.first_runs (h : Vw W4 wr B1 B2 B3 B4 bs n k v S) {x : Nat} {s : ByteArray} (hx : x < n) (hn : n ≤ 64) (hs : s.size ≤ maxLen) (hk : k ≤ 4096) :
    ∃ w5, (Instr.lookup 110 (.map (some B4)) (.string s) false).run Try.prog wr.drew = .ok (.int .u64 (S.fi s : Int)) wr.drew ∧
      (Instr.mapUpdate 110 (.map (some B4)) (.string s) (.int .u64 ((S.fi s ||| 2 ^ x : Nat) : Int))).run Try.prog wr.drew = .ok () w5 ∧ wr.grownBy w5 (some B4) ∧ Vw W4 w5 B1 B2 B3 B4 bs n (k + 1) v (S.first x s) := by
  have d12 := h.n12
  have d23 := h.n23
  have d34 := h.n34
  have d4 := h.n4
  obtain ⟨f1, hc1, o1⟩ := h.m1
  obtain ⟨f3, hw3, o3⟩ := h.m3
  obtain ⟨f4, hw4, o4⟩ := h.m4
  have o4d : OwnsM wr.drew 9 B4 k f4 := o4.block rfl
  have l3 := o4d.look keyed9 Try.underlying110 (zero63 _) (key9 hs)
  rw [hw4 s] at l3
  obtain ⟨w5, s5, g5, hf5⟩ := o4d.store keyed9 Try.underlying110 (by unfold maxLen; omega) (.int .u64 ((S.fi s ||| 2 ^ x : Nat) : Int)) (key9 hs)
  have g5' : wr.grownBy w5 (some B4) := grownBy_trans (grownBy_drew wr _) g5 (.inl rfl)
  refine ⟨w5, l3, s5, g5', ⟨f1, hc1, (o1.kept g5' (by simp; omega)).mono (Nat.le_succ k)⟩, (h.m2.kept g5' (by simp; omega)).mono (Nat.le_succ k), ⟨f3, hw3, (o3.kept g5' (by simp; omega)).mono (Nat.le_succ k)⟩, ⟨_, wd_put hw4 s _, hf5 _ (updF_same _ _ _) (fun key' _ _ hne => updF_other _ _ hne)⟩, h.own.kept g5' (own_ge h (by omega)), h.kp.grown g5' (fun b e => .inl (.inr (.inr (.inr (Option.some.inj e).symm)))), h.ok.first hx hn s, Nat.le_trans h.hb g5'.size, d12, d23, d34, d4, h.hs⟩

/-- A read of another's write: the row of reads has turned. -/
theorem Vw.read_at (h : Vw W4 wr B1 B2 B3 B4 bs n k v S) {w' : World} {v' : Value} {x : Nat} {s : ByteArray} {p : Nat × Nat} (g : wr.grownBy w' v.ownBlock) (own' : w'.ownsRow bs 118 4 v' (S.rd.length + 1) (Dl S.rd ++ [.int .i64 (p.1 : Int), .int .i64 (p.2 : Int), .int .i64 (x : Int), .string s])) (hx : x < n) (hs : s.size ≤ maxLen) (hp : S.rs.last s = some p) :
    Vw W4 w' B1 B2 B3 B4 bs n (k + 1) v' (S.read p x s) := by
  have d12 := h.n12
  have d23 := h.n23
  have d34 := h.n34
  have d4 := h.n4
  have hb := h.hs
  have ne : ∀ b, b < bs → some b ≠ v.ownBlock := fun b hb e => by have := (h.own.lt _ e.symm).1; omega
  refine ⟨let ⟨f, a, b⟩ := h.m1; ⟨f, a, (b.kept g (ne _ (by omega))).mono (Nat.le_succ k)⟩, (h.m2.kept g (ne _ (by omega))).mono (Nat.le_succ k), let ⟨f, a, b⟩ := h.m3; ⟨f, a, (b.kept g (ne _ (by omega))).mono (Nat.le_succ k)⟩, let ⟨f, a, b⟩ := h.m4; ⟨f, a, (b.kept g (ne _ (by omega))).mono (Nat.le_succ k)⟩, ?_, h.kp.grown g (fun b e => .inr (by have := (h.own.lt _ e).1; omega)), h.ok.read hx hs hp, Nat.le_trans h.hb g.size, d12, d23, d34, d4, h.hs⟩
  have e : (S.read p x s).rd = S.rd ++ [(p, x, s)] := rfl
  rw [e, Dl_append, List.length_append]
  exact own'
end
end Go.Proofs.Qxb6600752a
