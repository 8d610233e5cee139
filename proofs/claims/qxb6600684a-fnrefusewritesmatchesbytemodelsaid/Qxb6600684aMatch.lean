import Derived.Test.Qxb6600684aModel
namespace Go.Proofs.Qxb6600684a
open Go.RowKit

theorem model_any (v0 v1 v2 : Value) (xs S E : List Int) (f : Nat) (s : ByteArray) (w : World) (r0 : Rd .u8 w v0 xs) (r1 : Rd .i64 w v1 S) (r2 : Rd .i64 w v2 E)
    (hf : f ≤ xs.length) (hxl : xs.length ≤ 1048576) (hle : S.length = E.length) (hsl : S.length ≤ 4096) (hml : s.size ≤ 4096) (hch : Chain xs.length f S E) (out : List Int) (HOUT : Hid (xs.take f ++ refuseGo xs (errI s) f S E = out)) :
    Calls Try.prog 16 #[v0, v1, v2, .string s] w fun e w' => ∃ v', e = .returned v' ∧ w'.ownsRow w.heap.size 5 1 v' out.length (out.map (Value.int .u8)) ∧ w.grownBy w' none := by
  obtain ⟨a0, c0, rfl, _, _, _, hx0⟩ := r0
  obtain ⟨a1, c1, rfl, _, _, _, hx1⟩ := r1
  obtain ⟨a2, c2, rfl, _, _, _, hx2⟩ := r2
  rw [← hle] at hx2 ⊢
  exact model_walk a0 a1 a2 c0 c1 c2 xs S E f s w hx0 hx1 hx2 hf hxl hle hsl hml hch out HOUT

set_option maxHeartbeats 1000000 in
theorem match_walk (v0 v2 v3 : Value) (xs : List Int) (f : Int) (S E : List Int) (s : ByteArray) (w : World) (a0 : Option Addr) (c0 : Nat) (a2 : Option Addr) (c2 : Nat) (a3 : Option Addr) (c3 : Nat)
    (e0 : v0 = .slice a0 xs.length c0) (e2 : v2 = .slice a2 S.length c2) (e3 : v3 = .slice a3 E.length c3)
    (r0 : Rd .u8 w v0 xs) (r2 : Rd .i64 w v2 S) (r3 : Rd .i64 w v3 E) (hs : s.size ≤ maxLen) (hx : xs.length ≤ maxLen) (hS : S.length ≤ maxLen) (hE : E.length ≤ maxLen) :
    Calls Try.prog 4 #[v0, .int .i64 f, v2, v3, .string s] w fun e w' => e = .returned (.bool true) ∧ Below w.heap.size w w' := by
  unfold maxLen at hs hx hS hE
  subst e0 e2 e3
  go_enter Try.func4, Try.ntmps4
  go_wp2_with (first
    | (go_at_call 13; refine (bytes4_any _ _ _ _ _ _ _ _ _ _ _ _).mono ?_; rintro e w' ⟨b, rfl, hw⟩; obtain rfl := hw.symm; clear hw)
    | (go_at_call 14; refine (spans_any _ _ _ _ S E _ r2 r3 (by omega)).mono ?_; rintro e w' ⟨r, rfl, hr, m, rfl⟩))
  all_goals try (go_ret; first | exact ⟨rfl, Below.refl _ _⟩ | exact ⟨rfl, grownBy_below (grownBy_drewN _ _ _)⟩)
  have hr1 : (!r) = false := by assumption
  obtain ⟨hle, hf0, hfn, hch⟩ := hr (by simpa using hr1)
  obtain ⟨f, rfl⟩ := Int.eq_ofNat_of_zero_le hf0
  have hf : f ≤ xs.length := by omega
  have hsl : S.length ≤ 4096 := by omega
  have hml : s.size ≤ 4096 := by omega
  have hxl : xs.length ≤ 1048576 := by omega
  have HLE : Hid (S.length = E.length) := hle
  have g0 : w.grownBy (w.drewN m) none := grownBy_drewN _ _ _
  have r0' := rd_grown r0 g0
  have r2' := rd_grown r2 g0
  have r3' := rd_grown r3 g0
  obtain ⟨out, HOUT⟩ : ∃ out, Hid (xs.take f ++ refuseGo xs (errI s) f S E = out) := ⟨_, rfl⟩
  have hol : out.length ≤ 33554432 := by
    have h1 := refuse_le xs (errI s) S E f HLE.out hf hch
    have h2 : S.length * (errI s).length ≤ 4096 * 4099 := Nat.mul_le_mul hsl (by rw [errI_length]; omega)
    rw [← HOUT.out, List.length_append, List.length_take]
    omega
  clear hr hr1 hle hf0 hfn r0 r2 r3
  refine (clone_any _ xs _ r0' hxl).mono ?_
  rintro e w1 ⟨vD, rfl, hD1, g1⟩
  go_wp2_with fail
  refine (cloneInts_any _ S _ (rd_grown r2' g1) (by omega)).mono ?_
  rintro e w2 ⟨vS, rfl, hS2, g2⟩
  go_wp2_with fail
  refine (cloneInts_any _ E _ (rd_grown (rd_grown r3' g1) g2) (by have := HLE.out; omega)).mono ?_
  rintro e w3 ⟨vE, rfl, hE3, g3⟩
  have hD3 := owns_grown (owns_grown hD1 g2) g3
  have rS := rd_of_owns (owns_grown hS2 g3)
  have rE := rd_of_owns hE3
  go_wp2_with fail
  refine (model_any vD vS vE xs S E f s w3 (rd_of_owns hD3) rS rE hf hxl HLE.out hsl hml hch out HOUT).mono ?_
  rintro e w4 ⟨vW, rfl, hW4, g4⟩
  have G24 : w1.grownBy w4 none := grownBy_trans (grownBy_trans g2 g3 (.inl rfl)) g4 (.inl rfl)
  have G04 : w.grownBy w4 none := grownBy_trans g0 (grownBy_trans g1 G24 (.inl rfl)) (.inl rfl)
  have HWL : Hid (∀ k, vW.ownBlock = some k → w3.heap.size ≤ k ∧ k < w4.heap.size) := hW4.lt
  have HDL : Hid (∀ k, vD.ownBlock = some k → w.heap.size ≤ k ∧ k < w1.heap.size) := hD1.lt
  have HS3 : w1.heap.size ≤ w3.heap.size := Nat.le_trans g2.size g3.size
  go_wp2_with fail
  refine (zz_any _ vD vS vE xs f S E s w4 (owns_grown hD3 g4) G04.size (rd_grown rS g4) (rd_grown rE g4) hf hxl HLE.out hsl hml hch).mono ?_
  rintro e w5 ⟨vG, rfl, hG, E5⟩
  rw [HOUT.out] at hG
  have r5 : Rd .u8 w5 vW out := rd_other (rd_of_owns hW4) E5.grown fun b hb h => by
    have h1 := (HWL.out b hb).1
    have h2 := (HDL.out b h.symm).2
    omega
  have b5 : Below w.heap.size w w5 := Below.trans (grownBy_below G04) ((Below.refl _ _).grown E5.grown G04.size fun k hk => (HDL.out k hk).1)
  have rG := rd_of_owns hG
  clear hG E5 hW4 hD3 hS2 hE3 hD1
  go_wp2_with fail
  refine (equal_any _ _ out _ rG r5 (by omega)).mono ?_
  rintro e w6 ⟨rfl, q, rfl⟩
  go_wp2
  go_ret
  exact ⟨rfl, below_drewN b5 _⟩

theorem rd_le {k : IntKind} {w : World} {v : Value} {zs : List Int} (h : Rd k w v zs) : zs.length ≤ maxLen := by
  obtain ⟨a, cap, rfl, h1, hm, hn, hx⟩ := h
  omega

theorem isRow_rd2 {k : IntKind} {w : World} {a : Option Addr} {len cap : Nat} {zs : List Int}
    (h : (a = none ∧ len = 0 ∧ cap = 0 ∧ zs = []) ∨ ∃ x, a = some x ∧ len ≤ cap ∧ cap ≤ maxLen ∧ zs.length = cap ∧ (∀ i, i < zs.length → w.cell? (x.add i) = some (.int k (zs.getD i 0))) ∧ ∀ n ∈ zs, (Lit.int k n).wf = true) :
    Rd k w (.slice a len cap) (zs.take len) ∧ (zs.take len).length = len := by
  rcases h with ⟨rfl, rfl, rfl, rfl⟩ | ⟨x, rfl, h1, h2, h3, h4, h5⟩
  · exact ⟨⟨none, 0, rfl, Nat.le_refl _, Nat.zero_le _, fun _ => rfl, .inl rfl⟩, rfl⟩
  · have hl : (zs.take len).length = len := by simp; omega
    refine ⟨⟨some x, cap, by rw [hl], by omega, h2, fun h => by simp at h, ?_⟩, hl⟩
    rw [hl]
    by_cases h0 : len = 0
    · exact .inl h0
    · obtain ⟨b, o, sp⟩ := x
      have hsp : sp = none := by simpa [Addr.add] using World.cell?_spot (h4 0 (by omega))
      subst hsp
      refine .inr ⟨b, o, rfl, fun i hi => ?_⟩
      have := h4 i (by omega)
      rw [Addr.add_lit] at this
      rw [this]
      simp only [List.getD, List.getElem?_take, if_pos hi]
end Go.Proofs.Qxb6600684a
