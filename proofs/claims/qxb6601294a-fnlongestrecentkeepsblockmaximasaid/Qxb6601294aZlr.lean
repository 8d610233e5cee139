import Derived.Test.Qxb6601294aLr
namespace Go.Proofs.Qxb6601294a
open Go.RowKit

/-- What one ZZLongestRecentAdd makes of the ring, next, filled and longest. -/
def lrRing (sz cap : Nat) (ps : List (Int × Int)) (nx : Nat) (cur : Int × Int) (fl : Nat) (x : Int × Int) : List (Int × Int) := if fl + 1 = sz then pRing ps cap nx (curOf fl cur x) else ps
def lrNx (sz cap : Nat) (ps : List (Int × Int)) (nx fl : Nat) : Nat := if fl + 1 = sz then pNx ps cap nx else nx
def lrFl (sz fl : Nat) : Nat := if fl + 1 = sz then 0 else fl + 1

set_option maxHeartbeats 2000000 in
theorem zlr_out (base sz cap : Nat) (a : Option Addr) (c : Nat) (ps : List (Int × Int)) (nx : Nat) (cur : Int × Int) (fl : Nat) (lon : Int × Int) (x : Int × Int) (w : World) (hown : w.ownsRow base 40 2 (.slice a ps.length c) ps.length (Pl ps)) (hfl : fl < sz) (hsz : (sz : Int) ≤ 9223372036854775807) (hnx : nx < cap) (hL : ps.length ≤ 1048576) (hb : base ≤ w.heap.size) (out : Ending → World → Prop)
    (hout : Hid (∀ w' v', w'.ownsRow base 40 2 v' (lrRing sz cap ps nx cur fl x).length (Pl (lrRing sz cap ps nx cur fl x)) → Kp w w' (fun k => (Value.slice a ps.length c).ownBlock = some k) → Fresh w (.slice a ps.length c) v' →
      out (.returned (.tuple #[v', .int .i64 (lrNx sz cap ps nx fl : Int), .agg #[.int .i64 (curOf fl cur x).1, .int .u64 (curOf fl cur x).2], .int .i64 (lrFl sz fl : Int), .agg #[.int .i64 (ringMax (lrRing sz cap ps nx cur fl x) (curOf fl cur x)).1, .int .u64 (ringMax (lrRing sz cap ps nx cur fl x) (curOf fl cur x)).2]])) w')) :
    Calls Try.prog 24 #[.int .i64 (sz : Int), .int .i64 (cap : Int), .slice a ps.length c, .int .i64 (nx : Int), .agg #[.int .i64 cur.1, .int .u64 cur.2], .int .i64 (fl : Int), .agg #[.int .i64 lon.1, .int .u64 lon.2], .agg #[.int .i64 x.1, .int .u64 x.2]] w out := by
  go_enter Try.func24, Try.ntmps24
  go_wp2_with fail
  obtain ⟨W2, hW2⟩ : ∃ W2, W2 = ((((((w.alloc (Obj.cells #[Value.int IntKind.i64 cur.fst, Value.int IntKind.u64 cur.snd] 40)).alloc (Obj.cells #[Value.int IntKind.i64 lon.fst, Value.int IntKind.u64 lon.snd] 40)).alloc (Obj.cells #[Value.int IntKind.i64 x.fst, Value.int IntKind.u64 x.snd] 40)).alloc (Obj.cells #[Value.int IntKind.i64 0, Value.int IntKind.u64 0] 40)).alloc (Obj.cells #[Value.int IntKind.i64 0, Value.int IntKind.u64 0] 40)).alloc (Obj.cells #[Value.int IntKind.i64 (sz : Int), Value.int IntKind.i64 (cap : Int), Value.slice a ps.length c, Value.int IntKind.i64 (nx : Int), Value.int IntKind.i64 cur.fst, Value.int IntKind.u64 cur.snd, Value.int IntKind.i64 (fl : Int), Value.int IntKind.i64 lon.fst, Value.int IntKind.u64 lon.snd] 72)) := ⟨_, rfl⟩
  rw [← hW2]
  have hg2 : w.grownBy W2 none := by rw [hW2]; exact grown_alloc (grown_alloc (grown_alloc (grown_alloc (grown_alloc (World.grownBy_alloc w _ none) _) _) _) _) _
  have hs2 : W2.heap.size = w.heap.size + 6 := by rw [hW2]; simp
  have own2 := owns_grown hown hg2
  have hlo : ∀ k, w.heap.size ≤ k → (Value.slice a ps.length c).ownBlock ≠ some k := fun k hk h => by have := (hown.lt _ h).2; omega
  have k0 : W2.cell? ⟨w.heap.size + 1 + 1 + 1, 0, none⟩ = some (.int .i64 0) := by rw [hW2]; simp [go_sem]
  have k1 : W2.cell? ⟨w.heap.size + 1 + 1 + 1, 1, none⟩ = some (.int .u64 0) := by rw [hW2]; simp [go_sem]
  have k2 : W2.cell? ⟨w.heap.size + 1 + 1 + 1 + 1, 0, none⟩ = some (.int .i64 0) := by rw [hW2]; simp [go_sem]
  have k3 : W2.cell? ⟨w.heap.size + 1 + 1 + 1 + 1, 1, none⟩ = some (.int .u64 0) := by rw [hW2]; simp [go_sem]
  have kf : ∀ j, W2.frozen? ⟨w.heap.size + 1 + 1 + 1, j, none⟩ = false := fun j => by rw [hW2]; simp [go_sem]
  have kg : ∀ j, W2.frozen? ⟨w.heap.size + 1 + 1 + 1 + 1, j, none⟩ = false := fun j => by rw [hW2]; simp [go_sem]
  have hS : St W2 (w.heap.size + 1 + 1 + 1 + 1 + 1) base sz cap (.slice a ps.length c) ps nx cur fl lon := by
    refine ⟨?_, ?_, ?_, ?_, ?_, ?_, ?_, ?_, ?_, ?_, own2, hlo _ (by omega)⟩
    all_goals (try intro j)
    all_goals (rw [hW2]; simp [go_sem])
  clear hW2
  refine ladd_out (w.heap.size + 1 + 1 + 1 + 1 + 1) base sz cap (.slice a ps.length c) ps nx cur fl lon x W2 hS hfl hsz hnx hL (Nat.le_trans hb hg2.size) _ ?_
  intro w1 v' h1 K1 F1
  have b3 : w1.heap[w.heap.size + 1 + 1 + 1]? = W2.heap[w.heap.size + 1 + 1 + 1]? := K1.block _ (by omega) (fun h => h.elim (by omega) (hlo _ (by omega)))
  have b4 : w1.heap[w.heap.size + 1 + 1 + 1 + 1]? = W2.heap[w.heap.size + 1 + 1 + 1 + 1]? := K1.block _ (by omega) (fun h => h.elim (by omega) (hlo _ (by omega)))
  have K2 : Kp w w1 (fun k => (Value.slice a ps.length c).ownBlock = some k) := ⟨K1.os.trans hg2.os, K1.tape.trans hg2.tape, K1.output.trans hg2.output, Nat.le_trans hg2.size K1.size, fun k hk hS => (K1.block k (by omega) (fun h => h.elim (by omega) hS)).trans (hg2.block k hk (by simp))⟩
  have hn3 : v'.ownBlock ≠ some (w.heap.size + 1 + 1 + 1) := by
    rcases F1 with e | ⟨k, e, hk⟩
    · rw [e]; exact hlo _ (by omega)
    · rw [e]; intro h; cases h; omega
  have hn4 : v'.ownBlock ≠ some (w.heap.size + 1 + 1 + 1 + 1) := by
    rcases F1 with e | ⟨k, e, hk⟩
    · rw [e]; exact hlo _ (by omega)
    · rw [e]; intro h; cases h; omega
  have F2 : Fresh w (.slice a ps.length c) v' := F1.elim .inl fun ⟨k, e, hk⟩ => .inr ⟨k, e, by omega⟩
  change St w1 _ _ _ _ _ (lrRing sz cap ps nx cur fl x) (lrNx sz cap ps nx fl) _ (lrFl sz fl) (ringMax (lrRing sz cap ps nx cur fl x) _) at h1
  have q0 := (World.cell?_of_block b3 (a := ⟨w.heap.size + 1 + 1 + 1, 0, none⟩)).trans k0
  have q1 := (World.cell?_of_block b3 (a := ⟨w.heap.size + 1 + 1 + 1, 1, none⟩)).trans k1
  have q2 := (World.cell?_of_block b4 (a := ⟨w.heap.size + 1 + 1 + 1 + 1, 0, none⟩)).trans k2
  have q3 := (World.cell?_of_block b4 (a := ⟨w.heap.size + 1 + 1 + 1 + 1, 1, none⟩)).trans k3
  have qf : ∀ j, w1.frozen? ⟨w.heap.size + 1 + 1 + 1, j, none⟩ = false := fun j => (World.frozen?_of_block b3).trans (kf j)
  have qg : ∀ j, w1.frozen? ⟨w.heap.size + 1 + 1 + 1 + 1, j, none⟩ = false := fun j => (World.frozen?_of_block b4).trans (kg j)
  generalize lrRing sz cap ps nx cur fl x = ps' at h1 hout
  generalize curOf fl cur x = cu at h1 hout
  generalize ringMax ps' cu = rm at h1 hout
  generalize lrNx sz cap ps nx fl = nx' at h1 hout
  generalize lrFl sz fl = fl' at h1 hout
  have c2 := h1.c2
  have c3 := h1.c3
  have c4 := h1.c4
  have c5 := h1.c5
  have c6 := h1.c6
  have c7 := h1.c7
  have c8 := h1.c8
  have HO : Hid (w1.ownsRow base 40 2 v' ps'.length (Pl ps')) := h1.own
  clear h1 b3 b4 k0 k1 k2 k3 kf kg K1 F1 own2 hS hown hfl hsz hnx hL hlo hg2 hb
  obtain ⟨cu1, cu2⟩ := cu
  obtain ⟨rm1, rm2⟩ := rm
  go_wp2
  go_region
  all_goals go_wp2
  all_goals
    refine bodyPost_ret (v := .tuple #[v', .int .i64 (nx' : Int), .agg #[.int .i64 cu1, .int .u64 cu2], .int .i64 (fl' : Int), .agg #[.int .i64 rm1, .int .u64 rm2]]) (by simp [results, Try.results24, go_sem, q0, q1, q2, q3]) rfl (hout.out _ v' ?_ ?_ F2)
    · exact owns_drew (owns_other (owns_other (owns_other (owns_other HO.out _ _ hn3) _ _ hn3) _ _ hn4) _ _ hn4)
    · exact ((((K2.setCell (Or.inr (by simp; omega)) _).setCell (Or.inr (by simp; omega)) _).setCell (Or.inr (by simp; omega)) _).setCell (Or.inr (by simp; omega)) _).drew
end Go.Proofs.Qxb6601294a
