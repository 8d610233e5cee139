import Derived.Test.Qxb6600684aMod
import Derived.Test.Qxb6600684aModPlain
namespace Go.Proofs.Qxb6600684a
open Go.RowKit

theorem info4 : (Try.prog.info? 4).map (fun i => (i.zero, i.size, i.bytes)) = some (some (.bool false), 1, 1) := by kernel_rfl

/-- The marks L say what the first m spans cover, and of the next what lies below c. -/
def Marks (S E : List Int) (n m : Nat) (L : List Bool) : Prop := ∀ p, p < n → (L.getD p false = true ↔ Cov S E m p)
def Marks2 (S E : List Int) (n m c : Nat) (L : List Bool) : Prop := ∀ p, p < n → (L.getD p false = true ↔ Cov S E m p ∨ (S.getD m 0 ≤ (p : Int) ∧ p < c))
theorem marks_zero (S E : List Int) (n : Nat) : Marks S E n 0 (List.replicate n false) := by
  intro p hp
  simp only [List.getD, List.getElem?_replicate, if_pos hp, Option.getD_some]
  constructor
  · intro h; simp at h
  · rintro ⟨l, h, _⟩; omega
theorem marks_in {S E : List Int} {n m c : Nat} {L : List Bool} (h : Marks S E n m L) (hc : S.getD m 0 = (c : Int)) : Marks2 S E n m c L := by
  intro p hp
  rw [h p hp]
  constructor
  · exact .inl
  · rintro (h | ⟨h1, h2⟩)
    · exact h
    · omega
theorem marks_step {S E : List Int} {n m c : Nat} {L : List Bool} (h : Marks2 S E n m c L) (hc : S.getD m 0 ≤ (c : Int)) (hL : L.length = n) : Marks2 S E n m (c + 1) (L.set c true) := by
  intro p hp
  simp only [List.getD, List.getElem?_set]
  by_cases hpc : c = p
  · subst hpc
    simp only [if_pos, hL, hp, Option.getD_some]
    constructor
    · intro _; exact .inr ⟨hc, by omega⟩
    · intro _; trivial
  · rw [if_neg hpc]
    have := h p hp
    simp only [List.getD] at this
    rw [this]
    constructor
    · rintro (h | ⟨h1, h2⟩)
      · exact .inl h
      · exact .inr ⟨h1, by omega⟩
    · rintro (h | ⟨h1, h2⟩)
      · exact .inl h
      · exact .inr ⟨h1, by omega⟩
theorem marks_out {S E : List Int} {n m c : Nat} {L : List Bool} (h : Marks2 S E n m c L) (hc : E.getD m 0 = (c : Int)) : Marks S E n (m + 1) L := by
  intro p hp
  rw [h p hp]
  constructor
  · rintro (⟨l, h1, h2⟩ | ⟨h1, h2⟩)
    · exact ⟨l, by omega, h2⟩
    · exact ⟨m, by omega, h1, by omega⟩
  · rintro ⟨l, h1, h2, h3⟩
    by_cases hlm : l = m
    · subst hlm; exact .inr ⟨h2, by omega⟩
    · exact .inl ⟨l, by omega, h2, h3⟩

theorem owns_base {w : World} {base base' : Nat} {e : TypeId} {size : Nat} {v : Value} {n : Nat} {xs : List Value} (h : w.ownsRow base e size v n xs) (hb : base' ≤ base) : w.ownsRow base' e size v n xs := by
  refine ⟨h.1, ?_⟩
  rcases h.2 with h | ⟨g, cap, cur, h1, h2, h3⟩
  · exact .inl h
  · exact .inr ⟨g, cap, cur, h1, Nat.le_trans hb h2, h3⟩

set_option maxHeartbeats 1000000 in
theorem model_walk (a0 a1 a2 : Option Addr) (c0 c1 c2 : Nat) (xs S E : List Int) (f : Nat) (s : ByteArray) (w : World)
    (hx : xs.length = 0 ∨ ∃ b o, a0 = some ⟨b, o, none⟩ ∧ ∀ i, i < xs.length → w.cell? ⟨b, o + i, none⟩ = some (.int .u8 (xs.getD i 0)))
    (hx1 : S.length = 0 ∨ ∃ b o, a1 = some ⟨b, o, none⟩ ∧ ∀ i, i < S.length → w.cell? ⟨b, o + i, none⟩ = some (.int .i64 (S.getD i 0)))
    (hx2 : S.length = 0 ∨ ∃ b o, a2 = some ⟨b, o, none⟩ ∧ ∀ i, i < S.length → w.cell? ⟨b, o + i, none⟩ = some (.int .i64 (E.getD i 0)))
    (hf : f ≤ xs.length) (hxl : xs.length ≤ 1048576) (hle : S.length = E.length) (hsl : S.length ≤ 4096) (hml : s.size ≤ 4096) (hch : Chain xs.length f S E) (out : List Int) (HOUT : Hid (xs.take f ++ refuseGo xs (errI s) f S E = out)) :
    Calls Try.prog 16 #[.slice a0 xs.length c0, .slice a1 S.length c1, .slice a2 S.length c2, .string s] w fun e w' => ∃ v', e = .returned v' ∧
      w'.ownsRow w.heap.size 5 1 v' out.length (out.map (Value.int .u8)) ∧ w.grownBy w' none := by
  obtain ⟨i0, hi, hz0, hz1, hz2⟩ := info_parts info5
  obtain ⟨i4, hi4, hy0, hy1, hy2⟩ := info_parts info4
  have HLE : Hid (S.length = E.length) := hle
  have HCH : Hid (Chain xs.length f S E) := hch
  clear hle hch
  go_enter Try.func16, Try.ntmps16
  go_wp2_with (at_make; refine wpList_make_full _ rfl _ _ 38 rfl w.heap.size 4 i4 (.bool false) 1 Try.underlying38 hi4 hy0 hy1 _ _ _ _ xs.length rfl rfl rfl rfl ?b1 ?b2 ?b3 ?_)
  case b1 => rw [hy2]; omega
  case b2 => unfold maxLen; omega
  case b3 => exact Nat.le_refl _
  intro w0 hown0 hgrow0
  go_wp2
  go_loopw [10] (fun i wr => ∃ (k : Nat) (L : List Bool), k ≤ S.length ∧ i = .int .i64 k ∧ wr.ownsRow w.heap.size 4 1 (.slice (some ⟨w.heap.size, 0, none⟩) xs.length xs.length) xs.length (L.map Value.bool) ∧ Hid (Marks S E xs.length k L) ∧ w.grownBy wr none) (fun i _ => S.length - (intOf i).toNat)
  case atStart => exact ⟨0, List.replicate xs.length false, Nat.zero_le _, rfl, by simpa [toList_madeCells_one, Value.cells] using hown0, marks_zero _ _ _, hgrow0⟩
  case round =>
    obtain ⟨k, L, hk, rfl, hown, hmk, hg⟩ := hrel
    by_cases hlt : k < S.length
    · rcases hx1 with h0 | ⟨b, o, rfl, hx1⟩
      · omega
      rcases hx2 with h0 | ⟨b', o', rfl, hx2⟩
      · omega
      have g1 := grownBy_cell hg (hx1 k hlt)
      have g2 := hx2 k hlt
      obtain ⟨d1, d2, d3⟩ := chain_all HLE.out HCH.out k hlt
      obtain ⟨a, ha⟩ := Int.eq_ofNat_of_zero_le (show 0 ≤ S.getD k 0 by omega)
      obtain ⟨t, ht⟩ := Int.eq_ofNat_of_zero_le (show 0 ≤ E.getD k 0 by omega)
      have HA : Hid (S.getD k 0 = (a : Int) ∧ E.getD k 0 = (t : Int)) := ⟨ha, ht⟩
      rw [ha] at g1 d1 d2
      rw [ht] at g2 d2 d3
      have b1 : a ≤ t := by omega
      have b2 : t ≤ xs.length := by omega
      clear ha ht d1 d2 d3 hown0 hx1 hx2 hx
      obtain ⟨wo, hwo⟩ : ∃ wo : World, wo = wr := ⟨_, rfl⟩
      subst hwo
      go_wp2
      go_loopw [11] (fun q wi => ∃ (c : Nat) (L : List Bool), q = .int .i64 c ∧ a ≤ c ∧ c ≤ t ∧ wi.ownsRow w.heap.size 4 1 (.slice (some ⟨w.heap.size, 0, none⟩) xs.length xs.length) xs.length (L.map Value.bool) ∧ Hid (Marks2 S E xs.length k c L) ∧ w.grownBy wi none) (fun q _ => t - (intOf q).toNat)
      case atStart => exact ⟨a, L, rfl, Nat.le_refl _, b1, hown, marks_in hmk.out HA.out.1, hg⟩
      case round =>
        clear hown hmk L
        obtain ⟨c, L, rfl, hc1, hc2, hown, hmk, hgi⟩ := hrel
        have g3 := grownBy_cell hgi g2
        by_cases hct : c < t
        · have hLl : L.length = xs.length := by have := hown.1; simpa using this
          have k1 : wr.cell? ⟨w.heap.size, c, none⟩ = some (.bool L[c]) := by
            rw [hown.cellAt c (by omega)]; simp [hLl, show c < xs.length by omega]
          generalize L[c] = lb at k1
          have f1 := hown.frozenAt c
          have R := hown.stored c (.bool true)
          have em : (L.map Value.bool).set c (.bool true) = (L.set c true).map Value.bool := by rw [List.map_set]
          rw [em] at R
          have HR : Hid (_ ∧ _) := R
          have HM2 : Hid (Marks2 S E xs.length k (c + 1) (L.set c true)) := marks_step hmk.out (by rw [HA.out.1]; omega) hLl
          have hz : w.heap.size < wr.heap.size := (hown.lt _ rfl).2
          clear R em hLl hmk
          go_wp2
          go_roundw
          case rel => exact ⟨c + 1, L.set c true, by go_num, by omega, by omega, HR.out.1, HM2, grownBy_trans hgi HR.out.2 (.inr fun j h => by cases h; exact Nat.le_refl _)⟩
          case measure => simp [intOf] <;> omega
        · obtain rfl : c = t := by omega
          go_wp2
          go_roundw
          case rel => exact ⟨k + 1, L, by omega, by go_num, hown, marks_out hmk.out HA.out.2, hgi⟩
          case measure => simp [intOf] <;> omega
    · obtain rfl : k = S.length := by omega
      have hsz := hg.size
      go_wp2_with (at_make; refine wpList_make_own _ rfl _ _ 22 rfl wr.heap.size 5 i0 (.int .u8 0) 1 Try.underlying22 hi hz0 hz1 _ _ _ xs.length rfl rfl rfl ?b1 ?b2 ?b3 ?_)
      case b1 => rw [hz2]; omega
      case b2 => unfold maxLen; omega
      case b3 => exact Nat.le_refl _
      intro w2 hown2 hgrow2
      have hcb : w.heap.size < wr.heap.size := (hown.lt _ rfl).2
      obtain ⟨B, hB⟩ : ∃ B, B = wr.heap.size := ⟨_, rfl⟩
      rw [← hB] at hown2 hcb ⊢
      have hB2 : B < w2.heap.size := (hown2.lt _ rfl).2
      have hLl : L.length = xs.length := by have := hown.1; simpa using this
      have HC : Hid (∀ wx v, Ext w2 (.slice (some ⟨B, 0, none⟩) 0 xs.length) wx v → ∀ i, i < xs.length → wx.cell? ⟨w.heap.size, i, none⟩ = some (.bool (L.getD i false))) := by
        intro wx v hE i hi
        refine hE.grown.cell (grownBy_cell hgrow2 ?_) ?_
        · rw [hown.cellAt i (by omega)]
          simp [List.getD, hi, hLl]
        · intro h
          have : w.heap.size = B := by simpa [Value.ownBlock] using h
          omega
      have HK : Hid (∀ wx v, Ext w2 (.slice (some ⟨B, 0, none⟩) 0 xs.length) wx v → ∀ a u, w.cell? a = some u → wx.cell? a = some u) := by
        intro wx v hE a u ha
        refine hE.grown.cell (grownBy_cell hgrow2 (grownBy_cell hg ha)) ?_
        intro h
        have h1 : a.block = B := by simpa [Value.ownBlock] using h
        have := World.block_lt_of_cell? _ _ ha
        omega
      have G02 : Hid (w.grownBy w2 none) := grownBy_trans hg hgrow2 (.inl rfl)
      have hol : out.length ≤ 33554432 := by
        have h1 := refuse_le xs (errI s) S E f HLE.out hf HCH.out
        have h2 : S.length * (errI s).length ≤ 4096 * 4099 := Nat.mul_le_mul hsl (by rw [errI_length]; omega)
        rw [← HOUT.out, List.length_append, List.length_take]
        omega
      have HST := mid_start (err := errI s) HLE.out hf HCH.out
      rw [HOUT.out] at HST
      clear hown hgrow2 hg hgrow0 hown0 hLl hB
      go_wp2
      go_loopw [12, 13, 14] (fun d sj sp wr => ∃ (j p : Nat) (done : List Int), sj = .int .i64 j ∧ sp = .int .i64 p ∧ p ≤ xs.length + 1 ∧ j ≤ S.length ∧ wr.ownsRow B 5 1 d done.length (done.map (Value.int .u8)) ∧ Ext w2 (.slice (some ⟨B, 0, none⟩) 0 xs.length) wr d ∧
        Hid ((p = xs.length + 1 ∧ done = out) ∨ (p ≤ xs.length ∧ Mid xs (errI s) S E out done j p))) (fun _ _ p _ => xs.length + 1 - (intOf p).toNat)
      case atStart => exact ⟨0, 0, [], rfl, rfl, Nat.zero_le _, Nat.zero_le _, hown2, Ext.refl _ _, .inr ⟨Nat.zero_le _, HST⟩⟩
      case round =>
        obtain ⟨j, p, done, rfl, rfl, hp, hj, hown, hE, hinv⟩ := hrel
        by_cases hpn : p ≤ xs.length
        · have hmid : Mid xs (errI s) S E out done j p := by
            rcases hinv.out with ⟨h, _⟩ | ⟨_, h⟩
            · omega
            · exact h
          have HMID : Hid (Mid xs (errI s) S E out done j p) := hmid
          clear hmid hinv HST hown2
          obtain ⟨wo, hwo⟩ : ∃ wo : World, wo = wr := ⟨_, rfl⟩
          subst hwo
          go_wp2
          go_loopw [12, 13] (fun d sj wi => ∃ (j : Nat) (done : List Int), sj = .int .i64 j ∧ j ≤ S.length ∧ wi.ownsRow B 5 1 d done.length (done.map (Value.int .u8)) ∧ Ext w2 (.slice (some ⟨B, 0, none⟩) 0 xs.length) wi d ∧ Hid (Mid xs (errI s) S E out done j p)) (fun _ sj _ => S.length - (intOf sj).toNat)
          case atStart => exact ⟨j, done, rfl, hj, hown, hE, HMID⟩
          case round =>
            clear hown hE HMID hj
            obtain ⟨j2, d2, rfl, hj, hown, hE, hmid⟩ := hrel
            have hdl := mid_length hmid.out
            have hsz := hE.grown.size
            by_cases hjl : j2 < S.length
            · have hq : ∃ b o, a1 = some ⟨b, o, none⟩ ∧ wr.cell? ⟨b, o + j2, none⟩ = some (.int .i64 (S.getD j2 0)) := by
                rcases hx1 with h0 | ⟨b, o, h, hx1⟩
                · omega
                · exact ⟨b, o, h, HK.out _ _ hE _ _ (hx1 j2 hjl)⟩
              obtain ⟨b, o, rfl, q1⟩ := hq
              by_cases hjp : S.getD j2 0 = (p : Int)
              · rw [hjp] at q1
                have HT : Hid (Mid xs (errI s) S E out (d2 ++ errI s) (j2 + 1) p) := mid_take HLE.out hmid.out hjl hjp
                clear hx1 hx2 hx hmid hjp
                go_wp2_with (go_at_call 26; refine (reply_any B _ d2 s _ hown (by omega) (by omega)).mono ?_; rintro e w3 ⟨v3, rfl, hown3, E3⟩)
                go_roundw
                case rel => exact ⟨j2 + 1, d2 ++ errI s, by go_num, by omega, hown3, hE.trans E3, HT⟩
                case measure => simp [intOf] <;> omega
              · have hjx : j2 = S.length ∨ S.getD j2 0 ≠ (p : Int) := .inr hjp
                have ed : (S.getD j2 0 == (p : Int)) = false := by simpa using hjp
                have HJ : Hid (S.getD j2 0 ≠ (p : Int)) := hjp
                clear hjp
                generalize hsj : S.getD j2 0 = sj at q1 ed
                have HSJ : Hid (_ = _) := hsj
                clear hsj
                by_cases hpx : p < xs.length
                · have q2 := HC.out _ _ hE p hpx
                  cases hLp : L.getD p false with
                  | true =>
                    rw [hLp] at q2
                    have HN := mid_skip HLE.out hmid.out hjx hj (by rw [← hmk.out p hpx]; exact hLp)
                    have HN' : Hid (Mid xs (errI s) S E out d2 j2 (p + 1)) := HN
                    clear HN hLp hmid hjx hx1 hx2 hx
                    go_wp2
                    go_roundw
                    case rel => exact ⟨j2, p + 1, d2, rfl, by go_num, by omega, hj, hown, hE, .inr ⟨by omega, HN'⟩⟩
                    case measure => simp [intOf] <;> omega
                  | false =>
                    rw [hLp] at q2
                    have HN := mid_put HLE.out hmid.out hjx hpx (by rw [← hmk.out p hpx, hLp]; simp)
                    have HN' : Hid (Mid xs (errI s) S E out (d2 ++ [xs.getD p 0]) j2 (p + 1)) := HN
                    rcases hx with h0 | ⟨b3, o3, rfl, hx⟩
                    · omega
                    have q3 := HK.out _ _ hE _ _ (hx p hpx)
                    clear HN hLp hmid hjx hx1 hx2 hx
                    generalize xs.getD p 0 = z at q3 HN'
                    go_wp2_with (at_builtin; refine wpList_append_src _ rfl (.tmp 76) (.tmp 81) 22 22 rfl B 5 i0 (.int .u8 0) 1 1 Try.underlying22 hi hz0 hz1 hz2 rfl _ d2.length _ rfl (hown.alloc _) _ 1 [.int .u8 z] rfl (Src.ofSlice _ Try.underlying22 _ 1 1 _ rfl ?q2 ?q22) ?q3 ?q4 ?q5 ?_)
                    case q2 =>
                      intro j u hj
                      match j, hj with
                      | 0, hj => simp at hj; subst hj; simp [Addr.add]
                    case q22 => intro u hu; simp at hu; subst hu; rfl
                    case q3 => unfold maxLen; omega
                    case q4 => omega
                    case q5 => simp; omega
                    intro v3 w3 hown3 hg3 hlies3
                    have E3 : Ext wr u12 w3 v3 := (Ext.keep _ (World.grownBy_alloc wr _ none)).trans (Ext.app hg3 hlies3 (by simp))
                    go_wp2
                    go_roundw
                    case rel => exact ⟨j2, p + 1, d2 ++ [z], rfl, by go_num, by omega, hj, by simpa using hown3, hE.trans E3, .inr ⟨by omega, HN'⟩⟩
                    case measure => simp [intOf] <;> omega
                · obtain rfl : p = xs.length := by omega
                  have HN : Hid (d2 = out) := mid_last HLE.out hmid.out hjx hj
                  have dd : decide ((xs.length : Int) < (xs.length : Int)) = false := by simp
                  clear hmid hjx hx1 hx2 hx
                  go_wp2
                  go_roundw
                  case rel => exact ⟨j2, xs.length + 1, d2, rfl, by go_num, by omega, hj, hown, hE, .inl ⟨rfl, HN⟩⟩
                  case measure => simp [intOf] <;> omega
            · have hjx : j2 = S.length ∨ S.getD j2 0 ≠ (p : Int) := .inl (by omega)
              have ed : decide ((j2 : Int) < (S.length : Int)) = false := by simp; omega
              by_cases hpx : p < xs.length
              · have q2 := HC.out _ _ hE p hpx
                cases hLp : L.getD p false with
                | true =>
                  rw [hLp] at q2
                  have HN := mid_skip HLE.out hmid.out hjx hj (by rw [← hmk.out p hpx]; exact hLp)
                  have HN' : Hid (Mid xs (errI s) S E out d2 j2 (p + 1)) := HN
                  clear HN hLp hmid hjx hx1 hx2 hx
                  go_wp2
                  go_roundw
                  case rel => exact ⟨j2, p + 1, d2, rfl, by go_num, by omega, hj, hown, hE, .inr ⟨by omega, HN'⟩⟩
                  case measure => simp [intOf] <;> omega
                | false =>
                  rw [hLp] at q2
                  have HN := mid_put HLE.out hmid.out hjx hpx (by rw [← hmk.out p hpx, hLp]; simp)
                  have HN' : Hid (Mid xs (errI s) S E out (d2 ++ [xs.getD p 0]) j2 (p + 1)) := HN
                  rcases hx with h0 | ⟨b3, o3, rfl, hx⟩
                  · omega
                  have q3 := HK.out _ _ hE _ _ (hx p hpx)
                  clear HN hLp hmid hjx hx1 hx2 hx
                  generalize xs.getD p 0 = z at q3 HN'
                  go_wp2_with (at_builtin; refine wpList_append_src _ rfl (.tmp 76) (.tmp 81) 22 22 rfl B 5 i0 (.int .u8 0) 1 1 Try.underlying22 hi hz0 hz1 hz2 rfl _ d2.length _ rfl (hown.alloc _) _ 1 [.int .u8 z] rfl (Src.ofSlice _ Try.underlying22 _ 1 1 _ rfl ?q2 ?q22) ?q3 ?q4 ?q5 ?_)
                  case q2 =>
                    intro j u hj
                    match j, hj with
                    | 0, hj => simp at hj; subst hj; simp [Addr.add]
                  case q22 => intro u hu; simp at hu; subst hu; rfl
                  case q3 => unfold maxLen; omega
                  case q4 => omega
                  case q5 => simp; omega
                  intro v3 w3 hown3 hg3 hlies3
                  have E3 : Ext wr u12 w3 v3 := (Ext.keep _ (World.grownBy_alloc wr _ none)).trans (Ext.app hg3 hlies3 (by simp))
                  go_wp2
                  go_roundw
                  case rel => exact ⟨j2, p + 1, d2 ++ [z], rfl, by go_num, by omega, hj, by simpa using hown3, hE.trans E3, .inr ⟨by omega, HN'⟩⟩
                  case measure => simp [intOf] <;> omega
              · obtain rfl : p = xs.length := by omega
                have HN : Hid (d2 = out) := mid_last HLE.out hmid.out hjx hj
                have dd : decide ((xs.length : Int) < (xs.length : Int)) = false := by simp
                clear hmid hjx hx1 hx2 hx
                go_wp2
                go_roundw
                case rel => exact ⟨j2, xs.length + 1, d2, rfl, by go_num, by omega, hj, hown, hE, .inl ⟨rfl, HN⟩⟩
                case measure => simp [intOf] <;> omega
        · have hdo : p = xs.length + 1 ∧ done = out := by
            rcases hinv.out with h | ⟨h, _⟩
            · exact h
            · omega
          obtain ⟨rfl, hdo⟩ := hdo
          have HD : Hid (done = out) := hdo
          clear HST hown2 hdo hinv
          go_wp2
          go_ret
          refine ⟨u12, rfl, ?_, ?_⟩
          · rw [← HD.out]; exact owns_base hown (by omega)
          · exact grownBy_trans G02.out hE.grown (.inr fun k hk => by cases hk; exact Nat.le_of_lt hcb)
end Go.Proofs.Qxb6600684a
