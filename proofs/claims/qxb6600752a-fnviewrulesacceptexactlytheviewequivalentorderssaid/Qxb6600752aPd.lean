import Derived.Test.Qxb6600752aPc
namespace Go.Proofs.Qxb6600752a

/-- What a look-up in the last writes tells. -/
def lw : Option (Nat × Nat) → Int × Int
  | some p => ((p.1 : Int), (p.2 : Int))
  | none => (0, 0)
/-- The transactions placed before the k-th. -/
def plc (pm : List Nat) : Nat → Nat
  | 0 => 0
  | k + 1 => plc pm k ||| 2 ^ pm.getD k 0
theorem plc_bit (pm : List Nat) (y : Nat) : ∀ k, (plc pm k).testBit y = true ↔ ∃ j, j < k ∧ pm.getD j 0 = y
  | 0 => by simp [plc]
  | k + 1 => by
    rw [plc, Nat.testBit_or, Bool.or_eq_true, plc_bit pm y k, Nat.testBit_two_pow, Ev.lt_or]
    simp
theorem plc_lt {pm : List Nat} : ∀ k, (∀ j, j < k → pm.getD j 0 < 64) → plc pm k < 18446744073709551616
  | 0, _ => by simp [plc]
  | k + 1, h => or_lt (plc_lt k (fun j hj => h j (by omega))) (pow_lt64 (h k (by omega)))
theorem pow_and (a f : Nat) : (a &&& 2 ^ f ≠ 0) ↔ a.testBit f = true := by
  constructor
  · intro h
    by_cases ht : a.testBit f = true
    · exact ht
    · exfalso
      apply h
      apply Nat.eq_of_testBit_eq
      intro j
      rw [Nat.testBit_and, Nat.testBit_two_pow, Nat.zero_testBit]
      by_cases e : f = j
      · subst e
        simp [ht]
      · simp [e]
  · intro h e
    have := congrArg (fun z => Nat.testBit z f) e
    simp [Nat.testBit_and, h] at this
theorem okPair_iff (pl f t : Nat) : okPair pl (2 ^ f, 2 ^ t) = true ↔ ¬ (pl.testBit f = true ∧ ¬ pl.testBit t = true) := by
  rw [← pow_and, ← pow_and]
  unfold okPair
  by_cases h1 : pl &&& 2 ^ f = 0 <;> by_cases h2 : pl &&& 2 ^ t = 0 <;> simp [h1, h2]
theorem mayP_iff {b pl : Nat} {ps : List (Nat × Nat)} (hb : b < 18446744073709551616) (hpl : pl < 18446744073709551616) : mayP b ps pl = true ↔ (∀ y, y < 64 → b.testBit y = true → pl.testBit y = true) ∧ ∀ p ∈ ps, okPair pl p = true := by
  unfold mayP
  rw [Bool.and_eq_true, beq_iff_eq, zero_iff (andN_lt hb), List.all_eq_true]
  constructor
  · rintro ⟨h1, h2⟩
    refine ⟨fun y hy hby => ?_, h2⟩
    have := h1 y hy
    rw [andN_test _ _ _ hpl hy, hby] at this
    simpa using this
  · rintro ⟨h1, h2⟩
    refine ⟨fun y hy => ?_, h2⟩
    rw [andN_test _ _ _ hpl hy]
    cases hby : b.testBit y
    · rfl
    · simp [h1 y hy hby]

namespace Ev
variable {E : Ev} {pm : List Nat}
def Eqv (E : Ev) (pm : List Nat) : Prop := ∀ i, i < E.m → (E.isR i = true → (E.H E.m).src.getD i (0, 0) = (E.run E.init (E.ser pm)).src.getD i (0, 0)) ∧ (E.isW i = true → (lw ((E.H E.m).last (E.s i))).1 = (lw ((E.run E.init (E.ser pm)).last (E.s i))).1)

theorem W_pos {y : Nat} {t : ByteArray} : 0 < E.W y t ↔ ∃ i, i < E.m ∧ E.isW i = true ∧ E.x i = y ∧ E.s i = t := by
  rw [W, H_cnt, w, List.countP_pos_iff]
  simp [and_assoc]
theorem wid_some {p : Nat × Nat} {o : Option (Nat × Nat)} (h : widOf (some p) = widOf o) : o = some p := by
  cases o with
  | none => simp only [widOf, Prod.mk.injEq] at h; omega
  | some q =>
    simp only [widOf, Prod.mk.injEq] at h
    obtain ⟨p1, p2⟩ := p
    obtain ⟨q1, q2⟩ := q
    simp only at h
    congr 2 <;> omega
theorem wid_none {o : Option (Nat × Nat)} (h : widOf none = widOf o) : o = none := by
  cases o with
  | none => rfl
  | some q => simp only [widOf, Prod.mk.injEq] at h; omega

theorem bad_not (hP : Perm E pm) (hx : ∀ i, i < E.m → E.x i < E.n) (hB : E.Bad E.m) : ¬ Eqv E pm := by
  obtain ⟨i, p, hi, hr, hl, hne, hc⟩ := hB
  intro hE
  have e := (hE i hi).1 hr
  obtain ⟨k, hk, hpk⟩ := hP.sur (E.x i) (hx i hi)
  rw [H_src E hi hr, ser_src hP hi hr hk hpk.symm, hl, if_neg (by omega)] at e
  have := wid_some e
  cases this
  exact hne rfl
theorem read_at {S : VS} (hP : Perm E pm) (hx : ∀ i, i < E.m → E.x i < E.n) (hI : E.VI E.m S) (hE : Eqv E pm) {i : Nat} {p : Nat × Nat} (hi : i < E.m) (hr : E.isR i = true) (hl : (E.H i).last (E.s i) = some p) (hne : p.1 ≠ E.x i) :
    ∃ k j, k < E.n ∧ pm.getD k 0 = E.x i ∧ j < k ∧ pm.getD j 0 = p.1 ∧ p.2 = E.W p.1 (E.s i) ∧ ∀ l, j < l → l < k → E.W (pm.getD l 0) (E.s i) = 0 := by
  have hc := hI.own i p hi hr hl hne
  have e := (hE i hi).1 hr
  obtain ⟨k, hk, hpk⟩ := hP.sur (E.x i) (hx i hi)
  rw [H_src E hi hr, ser_src hP hi hr hk hpk.symm, hl, if_pos hc] at e
  have e := wid_some e
  rcases sp_last hP (E.s i) k (by omega) with ⟨a, _⟩ | ⟨j, hj, a, b, c⟩
  · rw [a] at e
    cases e
  · rw [a] at e
    cases e
    exact ⟨k, j, hk, hpk, hj, rfl, rfl, c⟩
theorem rd_not {S : VS} (hP : Perm E pm) (hx : ∀ i, i < E.m → E.x i < E.n) (hI : E.VI E.m S) {r : Rd} (hr : r ∈ S.rd) (hn : ¬ rdOk S r) : ¬ Eqv E pm := by
  obtain ⟨i, p, hi, hri, hl, hne, rfl⟩ := (hI.rd r).1 hr
  intro hE
  obtain ⟨k, j, _, _, _, _, h, _⟩ := read_at hP hx hI hE hi hri hl hne
  apply hn
  unfold rdOk
  rw [hI.cnt]
  exact h.symm

/-- Step k of the order keeps the rules. -/
def Step (S : VS) (pm : List Nat) (k : Nat) : Prop :=
  (∀ y, y < 64 → ((∃ s : ByteArray, s.size ≤ maxLen ∧ S.wr s ≠ 0 ∧ con S s (pm.getD k 0) y) ∨ ∃ r ∈ S.rd, r.2.1 = pm.getD k 0 ∧ r.1.1 = y) → ∃ j, j < k ∧ pm.getD j 0 = y) ∧
    ∀ r ∈ S.rd, ins S r (pm.getD k 0) = true → ¬ ((∃ j, j < k ∧ pm.getD j 0 = r.1.1) ∧ ¬ ∃ j, j < k ∧ pm.getD j 0 = r.2.1)

theorem rep_at (n x : Nat) : (List.replicate n ([] : List (Nat × Nat))).getD x [] = [] := by
  by_cases h : x < n <;> simp [List.getD, h]
theorem wr_ne {S : VS} {t : ByteArray} {y : Nat} (h : (S.wr t).testBit y = true) : S.wr t ≠ 0 := fun e => by rw [e] at h; simp at h

theorem step_eqv {S : VS} (hP : Perm E pm) (hn : E.n ≤ 64) (hx : ∀ i, i < E.m → E.x i < E.n) (hz : ∀ i, i < E.m → (E.s i).size ≤ maxLen) (hI : E.VI E.m S) (hok : ∀ r ∈ S.rd, rdOk S r) (hS : ∀ k, k < E.n → Step S pm k) : Eqv E pm := by
  have hW : ∀ t y, (S.wr t).testBit y = true ↔ 0 < E.W y t := hI.wr
  intro i hi
  have hxi := hx i hi
  refine ⟨fun hr => ?_, fun hw => ?_⟩
  · obtain ⟨k, hk, hpk⟩ := hP.sur (E.x i) hxi
    rw [H_src E hi hr, ser_src hP hi hr hk hpk.symm]
    cases hl : (E.H i).last (E.s i) with
    | none =>
      rw [if_pos (E.H_none hl _)]
      rcases sp_last hP (E.s i) k (by omega) with ⟨a, _⟩ | ⟨j, hj, a, b, c⟩
      · rw [a]
      · exfalso
        have hb := (hW (E.s i) (pm.getD j 0)).2 b
        obtain ⟨l, hlj, e⟩ := (hS j (by omega)).1 (E.x i) (by omega) (.inl ⟨E.s i, hz i hi, wr_ne hb, .inr ⟨hb, (hI.fi _ _).2 ⟨i, hi, hr, rfl, rfl, hl⟩, fun e => by have := hP.inj j k (by omega) hk (by rw [hpk, e]); omega⟩⟩)
        have := hP.inj l k (by omega) hk (by rw [hpk, e])
        omega
    | some p =>
      by_cases hp : p.1 = E.x i
      · have h2 := E.H_some hl
        rw [hp] at h2
        rw [if_neg (by omega), ← h2.1, ← hp]
      · have hc := hI.own i p hi hr hl hp
        rw [if_pos hc]
        have hm : (p, E.x i, E.s i) ∈ S.rd := (hI.rd _).2 ⟨i, p, hi, hr, hl, hp, rfl⟩
        have h2 := E.H_some hl
        have hok2 : S.rs.cnt p.1 (E.s i) = p.2 := hok _ hm
        rw [hI.cnt] at hok2
        have hWp : E.W p.1 (E.s i) = p.2 := hok2
        have hpn : p.1 < E.n := by
          obtain ⟨i2, h3, _, h4, _⟩ := W_pos.1 (show 0 < E.W p.1 (E.s i) by omega)
          rw [← h4]
          exact hx i2 h3
        obtain ⟨j, hj, e⟩ := (hS k hk).1 p.1 (by omega) (.inr ⟨_, hm, hpk.symm, rfl⟩)
        rcases sp_last hP (E.s i) k (by omega) with ⟨_, a⟩ | ⟨l, hlk, a, b, c⟩
        · have := a j hj
          rw [e] at this
          omega
        · rw [a]
          by_cases hlj : l = j
          · subst hlj
            rw [e, hWp]
          · exfalso
            by_cases hlt : l < j
            · have := c j hlt hj
              rw [e] at this
              omega
            · refine (hS l (by omega)).2 _ hm ?_ ⟨⟨j, by omega, e⟩, ?_⟩
              · simp only [ins, Bool.and_eq_true, bne_iff_ne]
                refine ⟨(hW _ _).2 b, fun e2 => ?_, fun e2 => ?_⟩
                · have := hP.inj l j (by omega) (by omega) (by rw [e2, e])
                  omega
                · have := hP.inj l k (by omega) (by omega) (by rw [e2, hpk])
                  omega
              · rintro ⟨j2, h1, h2⟩
                have := hP.inj j2 k (by omega) (by omega) (by rw [h2, hpk])
                omega
  · rw [← sp_all hP]
    have hpos : 0 < E.W (E.x i) (E.s i) := W_pos.2 ⟨i, hi, hw, rfl, rfl⟩
    obtain ⟨k, hk, hpk⟩ := hP.sur (E.x i) hxi
    rcases sp_last hP (E.s i) E.n (Nat.le_refl _) with ⟨_, a⟩ | ⟨l, hl, a, b, c⟩
    · have := a k hk
      rw [hpk] at this
      omega
    · rw [a]
      cases hL : (E.H E.m).last (E.s i) with
      | none =>
        have : E.W (E.x i) (E.s i) = 0 := E.H_none hL _
        omega
      | some p =>
        show (p.1 : Int) = (pm.getD l 0 : Int)
        have h2 := E.H_some hL
        have hWp : 0 < E.W p.1 (E.s i) := by show 0 < (E.H E.m).cnt _ _; omega
        obtain ⟨i2, h3, _, h4, _⟩ := W_pos.1 hWp
        have hpn : p.1 < E.n := by rw [← h4]; exact hx i2 h3
        obtain ⟨j, hj, e⟩ := hP.sur p.1 hpn
        by_cases hlj : l = j
        · subst hlj
          rw [e]
        · exfalso
          have hlr := hP.lt l hl
          obtain ⟨j2, h5, h6⟩ := (hS j hj).1 (pm.getD l 0) (by omega) (.inl ⟨E.s i, hz i hi, wr_ne ((hW _ _).2 b), .inl ⟨p, by rw [hI.last]; exact hL, e.symm, (hW _ _).2 b, fun e2 => hlj (hP.inj l j hl hj e2)⟩⟩)
          have := hP.inj j2 l (by omega) hl h6
          subst this
          have := c j h5 hj
          rw [e] at this
          omega

theorem eqv_step {S : VS} (hP : Perm E pm) (hx : ∀ i, i < E.m → E.x i < E.n) (hI : E.VI E.m S) (hE : Eqv E pm) : ∀ k, k < E.n → Step S pm k := by
  have hW : ∀ t y, (S.wr t).testBit y = true ↔ 0 < E.W y t := hI.wr
  have hyn : ∀ y t, 0 < E.W y t → y < E.n := fun y t h => by
    obtain ⟨i2, h3, _, h4, _⟩ := W_pos.1 h
    rw [← h4]
    exact hx i2 h3
  intro k hk
  refine ⟨fun y hy hb => ?_, fun r hr hin => ?_⟩
  · rcases hb with ⟨t, _, _, hc | ⟨hwx, hfy, hne⟩⟩ | ⟨r, hr, h1, h2⟩
    · obtain ⟨p, hl, hp1, hwy, hne⟩ := hc
      rw [hI.last] at hl
      have hy2 := (hW _ _).1 hwy
      obtain ⟨i, hi, hwi, hxi, hsi⟩ := W_pos.1 hy2
      have e := (hE i hi).2 hwi
      rw [hsi, hl, ← sp_all hP] at e
      obtain ⟨j, hj, hpj⟩ := hP.sur y (hyn y t hy2)
      rcases sp_last hP t E.n (Nat.le_refl _) with ⟨_, a⟩ | ⟨l, hl2, a, b, c⟩
      · have := a j hj
        rw [hpj] at this
        omega
      · rw [a] at e
        have e2 : pm.getD k 0 = pm.getD l 0 := by
          have e3 : (p.1 : Int) = (pm.getD l 0 : Int) := e
          omega
        have := hP.inj k l hk hl2 e2
        subst this
        have hjk : j ≠ k := fun e => by subst e; exact hne hpj.symm
        have : ¬ k < j := fun h => by
          have := c j h hj
          rw [hpj] at this
          omega
        exact ⟨j, by omega, hpj⟩
    · obtain ⟨i, hi, hr, hxi, hsi, hl⟩ := (hI.fi _ _).1 hfy
      have e := (hE i hi).1 hr
      obtain ⟨j, hj, hpj⟩ := hP.sur (E.x i) (hx i hi)
      subst hsi
      rw [H_src E hi hr, ser_src hP hi hr hj hpj.symm, hl, if_pos (E.H_none hl _)] at e
      have e := wid_none e
      rcases sp_last hP (E.s i) j (by omega) with ⟨_, a⟩ | ⟨l, _, a, _⟩
      · have hjk : j ≠ k := fun e => by subst e; exact hne (by rw [hpj]; exact hxi.symm)
        have : ¬ k < j := fun h => by
          have := a k h
          have := (hW _ _).1 hwx
          omega
        exact ⟨j, by omega, hpj.trans hxi⟩
      · rw [a] at e
        cases e
    · obtain ⟨i, p, hi, hri, hl, hne, rfl⟩ := (hI.rd r).1 hr
      obtain ⟨k2, j, hk2, hpk, hj, hpj, _, _⟩ := read_at hP hx hI hE hi hri hl hne
      have := hP.inj k2 k hk2 hk (by rw [hpk]; exact h1)
      subst this
      exact ⟨j, hj, hpj.trans h2⟩
  · rintro ⟨⟨j, hj, hpj⟩, hno⟩
    obtain ⟨i, p, hi, hri, hl, hne, rfl⟩ := (hI.rd r).1 hr
    simp only [ins, Bool.and_eq_true, bne_iff_ne] at hin
    obtain ⟨hw, h1, h2⟩ := hin
    obtain ⟨k2, j2, hk2, hpk, hj2, hpj2, _, hc⟩ := read_at hP hx hI hE hi hri hl hne
    have := hP.inj j j2 (by omega) (by omega) (by rw [hpj, hpj2])
    subst this
    have hk3 : ¬ k2 < k := fun h => hno ⟨k2, h, hpk⟩
    have hk4 : k ≠ k2 := fun e => by subst e; exact h2 hpk
    have := hc k hj (by omega)
    have := (hW _ _).1 hw
    omega

/-- The law: an order passes just if it is equivalent. -/
theorem law {S : VS} {bf : List Nat} {left : Lit → Bool} (hP : Perm E pm) (hn : E.n ≤ 64) (hx : ∀ i, i < E.m → E.x i < E.n) (hz : ∀ i, i < E.m → (E.s i).size ≤ maxLen) (hI : E.VI E.m S) (hok : ∀ r ∈ S.rd, rdOk S r) (hG : Good S E.n bf left) (hl : ∀ kl, left kl = false) (hV : ∀ r ∈ S.rd, r.1.1 < E.n ∧ r.2.1 < E.n) :
    (∀ k, k < E.n → mayP ((rdAll S E.n bf (List.replicate E.n []) S.rd).1.getD (pm.getD k 0) 0) ((rdAll S E.n bf (List.replicate E.n []) S.rd).2.getD (pm.getD k 0) []) (plc pm k) = true) ↔ Eqv E pm := by
  have hst : ∀ k, k < E.n → (mayP ((rdAll S E.n bf (List.replicate E.n []) S.rd).1.getD (pm.getD k 0) 0) ((rdAll S E.n bf (List.replicate E.n []) S.rd).2.getD (pm.getD k 0) []) (plc pm k) = true ↔ Step S pm k) := by
    intro k hk
    have hlt := hP.lt k hk
    have hsm := rdAll_sm S E.n (List.replicate E.n []) S.rd bf hG.2.1 (fun r hr => by have := hV r hr; have := hG.1; omega) (pm.getD k 0)
    rw [mayP_iff hsm (plc_lt k (fun j hj => by have := hP.lt j (by omega); omega))]
    refine and_congr ⟨fun h y hy hb => ?_, fun h y hy hb => ?_⟩ ⟨fun h r hr hin => ?_, fun h p hp => ?_⟩
    · refine (plc_bit pm y k).1 (h y hy ?_)
      rw [rdAll_bit S E.n _ _ y S.rd bf (fun r hr => by have := hV r hr; have := hG.1; omega), hG.2.2 _ y hlt hy]
      rcases hb with ⟨t, h1, h2, h3⟩ | hb
      · exact .inl ⟨t, h1, h2, hl _, h3⟩
      · exact .inr hb
    · rw [plc_bit]
      refine h y hy ?_
      rw [rdAll_bit S E.n _ _ y S.rd bf (fun r hr => by have := hV r hr; have := hG.1; omega), hG.2.2 _ y hlt hy] at hb
      rcases hb with ⟨t, h1, h2, _, h3⟩ | hb
      · exact .inl ⟨t, h1, h2, h3⟩
      · exact .inr hb
    · have hm : rdPair r ∈ (rdAll S E.n bf (List.replicate E.n []) S.rd).2.getD (pm.getD k 0) [] := by
        rw [rdAll_bt S E.n bf _ hlt S.rd _ (by simp)]
        refine List.mem_append_right _ (List.mem_filterMap.2 ⟨r, hr, by rw [if_pos hin]⟩)
      have := (okPair_iff _ _ _).1 (h _ hm)
      rw [plc_bit, plc_bit] at this
      exact this
    · rw [rdAll_bt S E.n bf _ hlt S.rd _ (by simp)] at hp
      have he : (List.replicate E.n ([] : List (Nat × Nat))).getD (pm.getD k 0) [] = [] := rep_at _ _
      rw [he, List.nil_append, List.mem_filterMap] at hp
      obtain ⟨r, hr, e⟩ := hp
      by_cases hin : ins S r (pm.getD k 0) = true
      · rw [if_pos hin] at e
        cases e
        refine (okPair_iff _ _ _).2 ?_
        rw [plc_bit, plc_bit]
        exact h r hr hin
      · rw [if_neg hin] at e
        cases e
  constructor
  · intro h
    exact step_eqv hP hn hx hz hI hok (fun k hk => (hst k hk).1 (h k hk))
  · intro h k hk
    exact (hst k hk).2 (eqv_step hP hx hI h k hk)

/-- A list without repetition of n numbers below n is an order. -/
theorem perm_of (hl : pm.length = E.n) (hd : pm.Nodup) (hlt : ∀ u ∈ pm, u < E.n) : Perm E pm := by
  have hg : ∀ k (h : k < E.n), pm.getD k 0 = pm[k]'(by omega) := fun k h => by simp [List.getD, show k < pm.length by omega]
  refine ⟨hl, fun k hk => by rw [hg k hk]; exact hlt _ (List.getElem_mem _), fun j k hj hk e => ?_, fun y hy => ?_⟩
  · rw [hg j hj, hg k hk] at e
    have hp := List.pairwise_iff_getElem.1 hd
    rcases Nat.lt_trichotomy j k with h | h | h
    · exact absurd e (hp j k (by omega) (by omega) h)
    · exact h
    · exact absurd e.symm (hp k j (by omega) (by omega) h)
  · have hy2 : y ∈ pm := by
      apply Classical.byContradiction
      intro hny
      have hd2 : (y :: pm).Nodup := List.nodup_cons.2 ⟨hny, hd⟩
      have := hd2.length_le_of_subset (l₂ := List.range E.n) (fun u hu => by
        rcases List.mem_cons.1 hu with rfl | hu
        · exact List.mem_range.2 hy
        · exact List.mem_range.2 (hlt u hu))
      simp at this
      omega
    obtain ⟨j, hj, e⟩ := List.getElem_of_mem hy2
    exact ⟨j, by omega, by rw [hg j (by omega)]; exact e⟩
end Ev
end Go.Proofs.Qxb6600752a
