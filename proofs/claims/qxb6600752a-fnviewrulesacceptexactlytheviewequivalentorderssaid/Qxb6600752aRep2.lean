import Derived.Test.Qxb6600752aRep
namespace Go.Proofs.Qxb6600752a
open Go.RowKit Go.Maps

abbrev NRow (w : World) (a : Option Addr) (us : List Nat) : Prop := us.length = 0 ∨ ∃ b o, a = some ⟨b, o, none⟩ ∧ ∀ i, (h : i < us.length) → w.cell? ⟨b, o + i, none⟩ = some (.int .i64 (us[i] : Int))
abbrev BRow (w : World) (a : Option Addr) (us : List Bool) : Prop := us.length = 0 ∨ ∃ b o, a = some ⟨b, o, none⟩ ∧ ∀ i, (h : i < us.length) → w.cell? ⟨b, o + i, none⟩ = some (.bool us[i])
theorem NRow.grown {w w' : World} {a : Option Addr} {us : List Nat} (h : NRow w a us) (g : w.grownBy w' none) : NRow w' a us := h.imp id fun ⟨b, o, e, hc⟩ => ⟨b, o, e, fun i hi => grownBy_cell g (hc i hi)⟩
theorem BRow.grown {w w' : World} {a : Option Addr} {us : List Bool} (h : BRow w a us) (g : w.grownBy w' none) : BRow w' a us := h.imp id fun ⟨b, o, e, hc⟩ => ⟨b, o, e, fun i hi => grownBy_cell g (hc i hi)⟩

theorem wf_i64 {x : Nat} (h : x ≤ 1048576) : (Lit.int .i64 (x : Int)).wf = true := WalkArith.wf_i64 (by omega)

open Classical in
/-- One entry turned. -/
noncomputable def updF (f : Value → Option Value) (key v : Value) : Value → Option Value := fun k => if k = key then some v else f k
theorem updF_same (f : Value → Option Value) (key v : Value) : updF f key v key = some v := if_pos rfl
theorem updF_other (f : Value → Option Value) {key k : Value} (v : Value) (h : k ≠ key) : updF f key v k = f k := if_neg h
theorem kv_inj {x y : Nat} {s t : ByteArray} (h : kv x s = kv y t) : x = y ∧ s = t := by
  simp only [kv, Value.agg.injEq] at h
  have := congrArg Array.toList h
  simp at this
  exact ⟨by omega, this.2⟩

theorem cnt_put {S : RS} {f : Value → Option Value} (h : Cnt S.cnt f) (x : Nat) (s : ByteArray) : Cnt (S.put x s).cnt (updF f (kv x s) (.int .i64 ((S.cnt x s : Int) + 1))) := by
  intro y t
  by_cases e : y = x ∧ t = s
  · obtain ⟨rfl, rfl⟩ := e
    rw [updF_same]
    simp [RS.put]
  · rw [updF_other _ _ (fun e2 => e (kv_inj e2)), h y t]
    simp [RS.put, e]
theorem last_put (S : RS) (x : Nat) (s : ByteArray) {v : Value} (h : v ≠ .string s) : lastF (S.put x s).last v = lastF S.last v := by
  unfold lastF
  cases v <;> simp only
  rename_i t
  have : t ≠ s := fun e => h (by rw [e])
  simp [RS.put, this]

/-- 'count[key]++; last[s] = {x, count[key]}': every run on the way, in either order. -/
theorem put_runs {T1 K1 T2 E2 : TypeId} (law1 : WideMaps.KeyLaw Try.prog K1) (u1 : Try.prog.underlying T1 = some (.map K1 3)) (u2 : Try.prog.underlying T2 = some (.map 9 E2)) {W : World} {B1 B2 k : Nat} {S : RS} {f : Value → Option Value} {x : Nat} {s : ByteArray} {kl : Lit}
    (hkl : keyOf Try.prog K1 (kv x s) = some kl) (hs : s.size ≤ maxLen) (hk : k ≤ 1048576) (hb : B1 ≠ B2) (hC : Cnt S.cnt f) (m1 : OwnsM W 9 B1 k (lastF S.last)) (m2 : OwnsM W K1 B2 k f) :
    ∃ st w2 w3 w4, (Instr.lookup T1 (.map (some B2)) (kv x s) false).run Try.prog W.drew = .ok (.int .i64 (S.cnt x s : Int)) W.drew ∧
      (Instr.mapEntry T1 (.map (some B2)) (kv x s)).run Try.prog W.drew = .ok (.tuple #[.int .i64 (S.cnt x s : Int), goInt st]) w2 ∧ (Instr.lookup T1 (.map (some B2)) (kv x s) false).run Try.prog w2 = .ok (.int .i64 (S.cnt x s : Int)) w2 ∧
      (Instr.entryStore T1 (.map (some B2)) (goInt st) (.int .i64 ((S.cnt x s : Int) + 1))).run Try.prog w2 = .ok () w3 ∧
      (Instr.lookup T1 (.map (some B2)) (kv x s) false).run Try.prog w3.drew = .ok (.int .i64 ((S.cnt x s : Int) + 1)) w3.drew ∧
      (Instr.mapUpdate T2 (.map (some B1)) (.string s) (.agg #[.int .i64 (x : Int), .int .i64 ((S.cnt x s : Int) + 1)])).run Try.prog w3.drew = .ok () w4 ∧
      W.grownBy w2 (some B2) ∧ W.grownBy w3 (some B2) ∧ w3.grownBy w4 (some B1) ∧ ∃ f', Cnt (S.put x s).cnt f' ∧ OwnsM w4 9 B1 (k + 1) (lastF (S.put x s).last) ∧ OwnsM w4 K1 B2 (k + 1) f' := by
  have hn : k < maxLen := by unfold maxLen; omega
  have m2d : OwnsM W.drew K1 B2 k f := m2.block rfl
  have l1 := m2d.look (Keyed.of_law law1) u1 (zero3 _) hkl
  obtain ⟨st, w2, he, g2, hf1, hst⟩ := m2d.entry law1 u1 (fun u => zero3 u) hn hkl
  rw [hC x s] at l1 he hf1
  have m2b := hf1 (updF f (kv x s) (.int .i64 (S.cnt x s : Int))) (updF_same _ _ _) (fun key' _ _ hne => updF_other _ _ hne)
  have l2 := m2b.look (Keyed.of_law law1) u1 (zero3 _) hkl
  rw [updF_same] at l2
  obtain ⟨w3, hs3, g3, hf3⟩ := hst w2 (.int .i64 ((S.cnt x s : Int) + 1)) rfl
  have m3 := hf3 (updF f (kv x s) (.int .i64 ((S.cnt x s : Int) + 1))) (updF_same _ _ _) (fun key' _ _ hne => updF_other _ _ hne)
  have m3d : OwnsM w3.drew K1 B2 (k + 1) _ := m3.block rfl
  have l3 := m3d.look (Keyed.of_law law1) u1 (zero3 _) hkl
  rw [updF_same] at l3
  have m1d : OwnsM w3.drew 9 B1 k (lastF S.last) := (((m1.block rfl : OwnsM W.drew 9 B1 k _).kept g2 (by simpa using hb)).kept g3 (by simpa using hb)).block rfl
  obtain ⟨w4, hs4, g4, hf4⟩ := m1d.store keyed9 u2 hn (.agg #[.int .i64 (x : Int), .int .i64 ((S.cnt x s : Int) + 1)]) (key9 hs)
  have gd : W.grownBy w2 (some B2) := grownBy_trans (grownBy_drew W _) g2 (.inl rfl)
  refine ⟨st, w2, w3, w4, l1, he, l2, hs3, l3, hs4, gd, grownBy_trans gd g3 (.inl rfl), grownBy_trans (grownBy_drew w3 _) g4 (.inl rfl), _, cnt_put hC x s, hf4 _ ?_ ?_, m3d.kept g4 (by simpa using hb.symm)⟩
  · rw [lastF_some (p := (x, S.cnt x s + 1))]
    · simp
    · simp [RS.put]
  · intro key' kl' _ hne
    exact last_put S x s hne

end Go.Proofs.Qxb6600752a
