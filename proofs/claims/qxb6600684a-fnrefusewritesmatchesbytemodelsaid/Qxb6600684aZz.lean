import Derived.Test.Qxb6600684aRef
namespace Go.Proofs.Qxb6600684a
open Go.RowKit

theorem info41 : (Try.prog.info? 41).map (fun i => (i.zero, i.size, i.bytes)) = some (some (.agg #[.int .i64 0, .int .i64 0]), 2, 16) := by kernel_rfl

/-- Block g holds a row of n pairs, none frozen, the first k of them S and E. -/
def Pairs (w : World) (g n k : Nat) (S E : List Int) : Prop :=
  ∃ cur, w.heap[g]? = some (.cells cur 41 (0, 0)) ∧ cur.size = n * 2 ∧ ∀ i, i < k → cur[i * 2]? = some (.int .i64 (S.getD i 0)) ∧ cur[i * 2 + 1]? = some (.int .i64 (E.getD i 0))


theorem pairs_step {w : World} {g n k : Nat} {S E : List Int} (h : Pairs w g n k S E) (hk : k < n) :
    Pairs ((w.setCell ⟨g, k * 2, none⟩ (.int .i64 (S.getD k 0))).setCell ⟨g, k * 2 + 1, none⟩ (.int .i64 (E.getD k 0))).drew g n (k + 1) S E ∧
      w.grownBy ((w.setCell ⟨g, k * 2, none⟩ (.int .i64 (S.getD k 0))).setCell ⟨g, k * 2 + 1, none⟩ (.int .i64 (E.getD k 0))).drew (some g) := by
  obtain ⟨cur, hcur, hsz, hpre⟩ := h
  have h1 := heap_setCell_same w g (k * 2) cur 41 (.int .i64 (S.getD k 0)) hcur
  have h2 := heap_setCell_same _ g (k * 2 + 1) _ 41 (.int .i64 (E.getD k 0)) h1
  refine ⟨⟨_, h2, by simpa using hsz, fun i hi => ?_⟩, ⟨rfl, rfl, rfl, by simp, fun j _ hj => ?_⟩⟩
  · by_cases hik : i = k
    · subst hik
      constructor
      · rw [Array.getElem?_setIfInBounds, if_neg (by omega), Array.getElem?_setIfInBounds, if_pos rfl, if_pos (by omega)]
      · rw [Array.getElem?_setIfInBounds, if_pos rfl, if_pos (by simp; omega)]
    · have := hpre i (by omega)
      constructor
      · rw [Array.getElem?_setIfInBounds, if_neg (by omega), Array.getElem?_setIfInBounds, if_neg (by omega)]; exact this.1
      · rw [Array.getElem?_setIfInBounds, if_neg (by omega), Array.getElem?_setIfInBounds, if_neg (by omega)]; exact this.2
  · have hne : j ≠ g := fun e => hj (by rw [e])
    show (((w.setCell ⟨g, k * 2, none⟩ _).setCell ⟨g, k * 2 + 1, none⟩ _)).heap[j]? = _
    rw [Below.heap_setCell _ _ _ _ hne, Below.heap_setCell _ _ _ _ hne]

set_option maxHeartbeats 400000 in
theorem zz_walk (base : Nat) (v : Value) (xs : List Int) (f : Nat) (a a' : Option Addr) (c c' : Nat) (S E : List Int) (s : ByteArray) (w : World) (hown : w.ownsRow base 5 1 v xs.length (xs.map (Value.int .u8))) (hb : base ≤ w.heap.size)
    (hx : S.length = 0 ∨ ∃ b o, a = some ⟨b, o, none⟩ ∧ ∀ i, i < S.length → w.cell? ⟨b, o + i, none⟩ = some (.int .i64 (S.getD i 0))) (hx' : S.length = 0 ∨ ∃ b' o', a' = some ⟨b', o', none⟩ ∧ ∀ i, i < S.length → w.cell? ⟨b', o' + i, none⟩ = some (.int .i64 (E.getD i 0)))
    (hf : f ≤ xs.length) (hxl : xs.length ≤ 1048576) (hle : S.length = E.length) (hsl : S.length ≤ 4096) (hml : s.size ≤ 4096) (hch : Chain xs.length f S E) :
    Calls Try.prog 17 #[v, .int .i64 (f : Int), .slice a S.length c, .slice a' S.length c', .string s] w fun e w' => ∃ v', e = .returned v' ∧ w'.ownsRow base 5 1 v' (xs.take f ++ refuseGo xs (errI s) f S E).length ((xs.take f ++ refuseGo xs (errI s) f S E).map (Value.int .u8)) ∧ Ext w v w' v' := by
  obtain ⟨i0, hi, hz0, hz1, hz2⟩ := info_parts info41
  have HLE : Hid (S.length = E.length) := hle
  clear hle
  go_enter Try.func17, Try.ntmps17
  go_wp2_with (at_make; refine wpList_make_full _ rfl _ _ 39 rfl w.heap.size 41 i0 (.agg #[.int .i64 0, .int .i64 0]) 2 Try.underlying39 hi hz0 hz1 _ _ _ _ S.length rfl rfl rfl rfl ?b1 ?b2 ?b3 ?_)
  case b1 => rw [hz2]; omega
  case b2 => unfold maxLen; omega
  case b3 => exact Nat.le_refl _
  intro w0 hown0 hgrow0
  go_wp2
  go_loopw [12] (fun i wr => ∃ k : Nat, k ≤ S.length ∧ i = .int .i64 k ∧ Pairs wr w.heap.size S.length k S E ∧ w.grownBy wr none) (fun i _ => S.length - (intOf i).toNat)
  case atStart =>
    refine ⟨0, Nat.zero_le _, rfl, ?_, hgrow0⟩
    rcases hown0.2 with ⟨h, _⟩ | ⟨g', cap', cur, h, _, hg, _, _, hs, _⟩
    · simp at h
    · simp only [Value.slice.injEq, Option.some.injEq, Addr.mk.injEq, and_true, true_and] at h
      obtain ⟨rfl, rfl⟩ := h
      exact ⟨cur, hg, hs, fun i h => by omega⟩
  case round =>
    obtain ⟨k, hk, rfl, hP, hg⟩ := hrel
    by_cases hlt : k < S.length
    · rcases hx with h0 | ⟨b, o, rfl, hc⟩
      · omega
      rcases hx' with h0 | ⟨b', o', rfl, hc'⟩
      · omega
      have g1 := grownBy_cell hg (hc k hlt)
      have g2 := grownBy_cell hg (hc' k hlt)
      clear hc hc' hown0
      have R := pairs_step hP hlt
      obtain ⟨cur, hcur, hsz, hpre⟩ := hP
      have hz : w.heap.size < wr.heap.size := (Array.getElem?_eq_some_iff.1 hcur).1
      have f1 : wr.frozen? ⟨w.heap.size, k * 2, none⟩ = false := frozen_of_row wr _ _ cur 41 hcur
      have f2 : wr.frozen? ⟨w.heap.size, k * 2 + 1, none⟩ = false := frozen_of_row wr _ _ cur 41 hcur
      have k1 : wr.cell? ⟨w.heap.size, k * 2, none⟩ = some cur[k * 2] := by rw [cell_of_row wr _ _ cur 41 (0, 0) hcur]; simp
      have k2 : wr.cell? ⟨w.heap.size, k * 2 + 1, none⟩ = some cur[k * 2 + 1] := by rw [cell_of_row wr _ _ cur 41 (0, 0) hcur]; simp
      generalize cur[k * 2] = o1 at k1
      generalize cur[k * 2 + 1] = o2 at k2
      generalize S.getD k 0 = z1 at g1 R
      generalize E.getD k 0 = z2 at g2 R
      have HR : Hid (_ ∧ _) := R
      clear hcur hsz hpre R
      go_wp2
      go_region
      all_goals go_wp2
      all_goals
        go_roundw
        case rel => exact ⟨k + 1, by omega, by go_num, HR.out.1, grownBy_trans hg HR.out.2 (.inr fun j h => by cases h; exact Nat.le_refl _)⟩
        case measure => simp [intOf]; omega
    · obtain rfl : k = S.length := by omega
      have howr := owns_grown hown hg
      obtain ⟨vr, r1, r2⟩ := rd_slice_lo size5 (rd_of_owns howr) f hf
      obtain ⟨vd, d1, d2, d3⟩ := own_slice_hi size5 howr f hf
      obtain ⟨cur, hcur, hsz, hpre⟩ := hP
      have hcs : ∀ i, i < S.length → wr.cell? ⟨w.heap.size, i * 2, none⟩ = some (.int .i64 (S.getD i 0)) ∧ wr.cell? ⟨w.heap.size, i * 2 + 1, none⟩ = some (.int .i64 (E.getD i 0)) := fun i hi => by
        rw [cell_of_row wr _ _ cur 41 (0, 0) hcur, cell_of_row wr _ _ cur 41 (0, 0) hcur]; exact hpre i hi
      have hgs : v.ownBlock ≠ some w.heap.size := fun h => Nat.lt_irrefl _ (hown.lt _ h).2
      have HC := refuse_walk base v vr vd xs f w.heap.size S.length S E s wr howr (Nat.le_trans hb hg.size) r1 d1 r2 d2 d3 hcs hgs hf hxl HLE.out hsl hml hch
      clear hcs hpre hsz hcur r1 d1 r2 d2 d3 hx hx' hown0
      go_wp2_with (go_at_call 27; refine HC.mono ?_; rintro e w3 ⟨v3, rfl, hown3, E3⟩)
      go_ret
      exact ⟨v3, rfl, hown3, (Ext.keep _ hg).trans E3⟩

/-- ZZRefuseWrites. -/
theorem zz_any (base : Nat) (v vs ve : Value) (xs : List Int) (f : Nat) (S E : List Int) (s : ByteArray) (w : World) (hown : w.ownsRow base 5 1 v xs.length (xs.map (Value.int .u8))) (hb : base ≤ w.heap.size)
    (hS : Rd .i64 w vs S) (hE : Rd .i64 w ve E)
    (hf : f ≤ xs.length) (hxl : xs.length ≤ 1048576) (hle : S.length = E.length) (hsl : S.length ≤ 4096) (hml : s.size ≤ 4096) (hch : Chain xs.length f S E) :
    Calls Try.prog 17 #[v, .int .i64 (f : Int), vs, ve, .string s] w fun e w' => ∃ v', e = .returned v' ∧ w'.ownsRow base 5 1 v' (xs.take f ++ refuseGo xs (errI s) f S E).length ((xs.take f ++ refuseGo xs (errI s) f S E).map (Value.int .u8)) ∧ Ext w v w' v' := by
  obtain ⟨a, cap, rfl, h1, hm, hn, hx⟩ := hS
  obtain ⟨a', cap', rfl, h1', hm', hn', hx'⟩ := hE
  rw [← hle]
  exact zz_walk base v xs f a a' cap cap' S E s w hown hb hx (by rwa [← hle] at hx') hf hxl hle hsl hml hch
end Go.Proofs.Qxb6600684a
