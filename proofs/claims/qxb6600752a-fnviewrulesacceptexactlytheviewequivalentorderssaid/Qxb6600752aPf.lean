import Derived.Test.Qxb6600752aPe
namespace Go.Proofs.Qxb6600752a
open Go.RowKit Go.Maps

theorem evTo_at (ts : List Int) (ev ac : List Nat) (ss : List ByteArray) {i : Nat} {e : Int × Nat × ByteArray} {m : Nat} (h : (evTo ts ev ac ss m)[i]? = some e) : i < m ∧ e = evAt ts ev ac ss i := by
  unfold evTo at h
  rw [List.getElem?_map, Option.map_eq_some_iff] at h
  obtain ⟨j, h1, h2⟩ := h
  rw [List.getElem?_eq_some_iff] at h1
  obtain ⟨h3, h4⟩ := h1
  simp at h3 h4
  subst h4
  exact ⟨h3, h2.symm⟩
theorem evTo_get (ts : List Int) (ev ac : List Nat) (ss : List ByteArray) {i m : Nat} (h : i < m) : (evTo ts ev ac ss m)[i]? = some (evAt ts ev ac ss i) := by
  unfold evTo
  simp [h]
/-- What zzvr_any asks of the events. -/
theorem ev_ok (ts : List Int) (ev ac : List Nat) (ss : List ByteArray) (h0 : 0 < ev.length → 0 < ts.length) (hl : ev.length = ss.length) (hs : ∀ s ∈ ss, s.size ≤ maxLen) : ∀ i e, (evTo ts ev ac ss ev.length)[i]? = some e → ev.getD i 0 % ts.length < ts.length ∧ e.1 = ts.getD (ev.getD i 0 % ts.length) 0 ∧ e.2.1 < 4 ∧ e.2.2.size ≤ maxLen := by
  intro i e h
  obtain ⟨hi, rfl⟩ := evTo_at ts ev ac ss h
  refine ⟨Nat.mod_lt _ (h0 (by omega)), rfl, Nat.mod_lt _ (by omega), ?_⟩
  have hi2 : i < ss.length := by omega
  have : ss.getD i ByteArray.empty = ss[i] := by simp [hi2]
  show (ss.getD i ByteArray.empty).size ≤ maxLen
  rw [this]
  exact hs _ (List.getElem_mem hi2)

section
variable {ts : List Int} {ev ac : List Nat} {ss : List ByteArray} {pm : List Nat}
def theE (ts : List Int) (ev ac : List Nat) (ss : List ByteArray) : Ev := ⟨ts.length, ev, ac, ss, comTo ts.length ev ac ev.length⟩
theorem ev_to (hd : ts.Nodup) (h0 : 0 < ev.length → 0 < ts.length) : ∀ k, k < (theE ts ev ac ss).m → ∃ e, (evTo ts ev ac ss ev.length)[k]? = some e ∧ cmTo ts ev ac ss ev.length e.1 = (theE ts ev ac ss).cm.getD ((theE ts ev ac ss).x k) false ∧ (fun i => ev.getD i 0 % ts.length) k = (theE ts ev ac ss).x k ∧ e.2.1 = (theE ts ev ac ss).ac.getD k 0 % 4 ∧ e.2.2 = (theE ts ev ac ss).s k := by
  intro k hk
  have hk2 : k < ev.length := hk
  refine ⟨_, evTo_get ts ev ac ss hk2, ?_, rfl, rfl, rfl⟩
  exact cm_com hd ev ac ss ev.length _ (Nat.mod_lt _ (h0 (by omega)))
theorem x_lt (h0 : 0 < ev.length → 0 < ts.length) : ∀ i, i < (theE ts ev ac ss).m → (theE ts ev ac ss).x i < (theE ts ev ac ss).n := fun i hi => Nat.mod_lt _ (h0 (Nat.lt_of_le_of_lt (Nat.zero_le i) hi))
theorem fin_refuse (hd : ts.Nodup) (h0 : 0 < ev.length → 0 < ts.length) (p1 : pm.length = ts.length) (p2 : pm.Nodup) (p3 : ∀ u ∈ pm, u < ts.length)
    (h : vTo (evTo ts ev ac ss ev.length) (cmTo ts ev ac ss ev.length) (fun i => ev.getD i 0 % ts.length) (evTo ts ev ac ss ev.length).length = none ∨ ∃ S, vTo (evTo ts ev ac ss ev.length) (cmTo ts ev ac ss ev.length) (fun i => ev.getD i 0 % ts.length) (evTo ts ev ac ss ev.length).length = some S ∧ ∃ r ∈ S.rd, ¬ rdOk S r) : ¬ Ev.Eqv (theE ts ev ac ss) pm := by
  have hP : Ev.Perm (theE ts ev ac ss) pm := Ev.perm_of p1 p2 p3
  rw [evTo_length] at h
  rcases Ev.vi_to (theE ts ev ac ss) (ev_to (ts := ts) (ev := ev) (ac := ac) (ss := ss) hd h0) ev.length (Nat.le_refl _) with ⟨S, hS, hI⟩ | ⟨_, hB⟩
  · rcases h with h | ⟨S2, h, r, hr, hn⟩
    · rw [hS] at h
      cases h
    · rw [hS] at h
      cases h
      exact Ev.rd_not hP (x_lt h0) hI hr hn
  · exact Ev.bad_not hP (x_lt h0) hB
theorem fin_law (hd : ts.Nodup) (hn : ts.length ≤ 64) (h0 : 0 < ev.length → 0 < ts.length) (hl : ev.length = ss.length) (hs : ∀ s ∈ ss, s.size ≤ maxLen) (p1 : pm.length = ts.length) (p2 : pm.Nodup) (p3 : ∀ u ∈ pm, u < ts.length) {S : VS} {bf : List Nat} {left : Lit → Bool} {m : Nat}
    (h : vTo (evTo ts ev ac ss ev.length) (cmTo ts ev ac ss ev.length) (fun i => ev.getD i 0 % ts.length) (evTo ts ev ac ss ev.length).length = some S) (hok : ∀ r ∈ S.rd, rdOk S r) (hG : Good S ts.length bf left) (hle : ∀ kl, left kl = false) (hV : Vok S ts.length m) :
    (∀ k, k < pm.length → mayP ((rdAll S ts.length bf (List.replicate ts.length []) S.rd).1.getD (pm.getD k 0) 0) ((rdAll S ts.length bf (List.replicate ts.length []) S.rd).2.getD (pm.getD k 0) []) (plc pm k) = true) ↔ Ev.Eqv (theE ts ev ac ss) pm := by
  have hP : Ev.Perm (theE ts ev ac ss) pm := Ev.perm_of p1 p2 p3
  rw [evTo_length] at h
  rcases Ev.vi_to (theE ts ev ac ss) (ev_to (ts := ts) (ev := ev) (ac := ac) (ss := ss) hd h0) ev.length (Nat.le_refl _) with ⟨S2, hS, hI⟩ | ⟨hN, _⟩
  · rw [hS] at h
    cases h
    rw [p1]
    refine Ev.law hP hn (x_lt h0) (fun i hi => ?_) hI hok hG hle (fun r hr => ?_)
    · have hi2 : i < ss.length := by have : i < ev.length := hi; omega
      have : ss.getD i ByteArray.empty = ss[i] := by simp [hi2]
      show (ss.getD i ByteArray.empty).size ≤ maxLen
      rw [this]
      exact hs _ (List.getElem_mem hi2)
    · have := hV.rd r hr
      exact ⟨this.1, this.2.2.1⟩
  · rw [hN] at h
    cases h
end

/-- What mayPlace asks of the rules in memory. -/
theorem Rw.may {wr : World} {R gb gt bb n : Nat} {bf : List Nat} {vs : List Value} {bt : List (List (Nat × Nat))} (h : Rw wr R gb gt bb n bf vs bt) {x : Nat} (hx : x < n) : ∃ a c, wr.cell? ⟨gb, x, none⟩ = some (.int .u64 (bf.getD x 0 : Int)) ∧ wr.cell? ⟨gt, x, none⟩ = some (.slice a (bt.getD x []).length c) ∧ QRow wr a (bt.getD x []) := by
  obtain ⟨v, hv, ho⟩ := h.el x hx
  have c0 := h.bo.cellAt x (by omega)
  rw [Us_at bf x (by rw [h.lb]; exact hx)] at c0
  have c1 := h.tr.cellAt x (by omega)
  rw [hv] at c1
  rcases ho.2 with ⟨rfl, h0⟩ | ⟨g, cap, cur, rfl, _, _, _, _, _, _⟩
  · refine ⟨none, 0, c0, ?_, .inl h0⟩
    rw [h0]
    exact c1
  · refine ⟨_, _, c0, c1, .inr ⟨g, rfl, fun i hi => ?_⟩⟩
    have hu := Ul_at _ i _ (List.getElem?_eq_getElem hi)
    have d0 := ho.cellAt (i * 2) (by omega)
    have d1 := ho.cellAt (i * 2 + 1) (by omega)
    rw [hu.1] at d0
    rw [hu.2] at d1
    exact ⟨d0, d1⟩
theorem bt_len (S : VS) {n x m : Nat} (bf : List Nat) (hx : x < n) (hn : n ≤ 64) (hV : Vok S n m) : ((rdAll S n bf (List.replicate n []) S.rd).2.getD x []).length ≤ m ∧ ∀ p ∈ (rdAll S n bf (List.replicate n []) S.rd).2.getD x [], p.1 < 18446744073709551616 ∧ p.2 < 18446744073709551616 := by
  rw [rdAll_bt S n bf x hx S.rd _ (by simp), Ev.rep_at, List.nil_append]
  refine ⟨Nat.le_trans (List.length_filterMap_le _ _) hV.len, fun p hp => ?_⟩
  rw [List.mem_filterMap] at hp
  obtain ⟨r, hr, e⟩ := hp
  have := hV.rd r hr
  split at e
  · cases e
    exact ⟨pow_lt64 (by omega), pow_lt64 (by omega)⟩
  · cases e
end Go.Proofs.Qxb6600752a
