import Derived.Test.Qxb6601294aPWin
import Derived.Deep.DeepCutAuto
import Derived.Deep.CutRange
namespace Go.Proofs.Qxb6601294a
open Go.RowKit

/-- A longestRecent that lies in block B, its ring of the call's own. -/
structure St (w : World) (B base sz cap : Nat) (v : Value) (ps : List (Int × Int)) (nx : Nat) (cur : Int × Int) (fl : Nat) (lon : Int × Int) : Prop where
  c0 : w.cell? ⟨B, 0, none⟩ = some (.int .i64 (sz : Int))
  c1 : w.cell? ⟨B, 1, none⟩ = some (.int .i64 (cap : Int))
  c2 : w.cell? ⟨B, 2, none⟩ = some v
  c3 : w.cell? ⟨B, 3, none⟩ = some (.int .i64 (nx : Int))
  c4 : w.cell? ⟨B, 4, none⟩ = some (.int .i64 cur.1)
  c5 : w.cell? ⟨B, 5, none⟩ = some (.int .u64 cur.2)
  c6 : w.cell? ⟨B, 6, none⟩ = some (.int .i64 (fl : Int))
  c7 : w.cell? ⟨B, 7, none⟩ = some (.int .i64 lon.1)
  c8 : w.cell? ⟨B, 8, none⟩ = some (.int .u64 lon.2)
  fz : ∀ j, w.frozen? ⟨B, j, none⟩ = false
  own : w.ownsRow base 40 2 v ps.length (Pl ps)
  ne : v.ownBlock ≠ some B

theorem St.lt {w : World} {B base sz cap : Nat} {v : Value} {ps : List (Int × Int)} {nx : Nat} {cur : Int × Int} {fl : Nat} {lon : Int × Int} (h : St w B base sz cap v ps nx cur fl lon) : B < w.heap.size := World.block_lt_of_cell? _ _ h.c0
theorem St.grown {w w' : World} {B base sz cap : Nat} {v : Value} {ps : List (Int × Int)} {nx : Nat} {cur : Int × Int} {fl : Nat} {lon : Int × Int} (h : St w B base sz cap v ps nx cur fl lon) (g : w.grownBy w' none) : St w' B base sz cap v ps nx cur fl lon :=
  have hb : w'.heap[B]? = w.heap[B]? := g.block B h.lt (by simp)
  ⟨grownBy_cell g h.c0, grownBy_cell g h.c1, grownBy_cell g h.c2, grownBy_cell g h.c3, grownBy_cell g h.c4, grownBy_cell g h.c5, grownBy_cell g h.c6, grownBy_cell g h.c7, grownBy_cell g h.c8, fun j => (World.frozen?_of_block hb).trans (h.fz j), owns_grown h.own g, h.ne⟩
theorem St.other {w : World} {B base sz cap : Nat} {v : Value} {ps : List (Int × Int)} {nx : Nat} {cur : Int × Int} {fl : Nat} {lon : Int × Int} (h : St w B base sz cap v ps nx cur fl lon) (a : Addr) (u : Value) (h1 : a.block ≠ B) (h2 : v.ownBlock ≠ some a.block) : St (w.setCell a u) B base sz cap v ps nx cur fl lon :=
  have f : ∀ j, (w.setCell a u).cell? ⟨B, j, none⟩ = w.cell? ⟨B, j, none⟩ := fun j => cell_far _ _ _ _ (.inl h1)
  ⟨(f _).trans h.c0, (f _).trans h.c1, (f _).trans h.c2, (f _).trans h.c3, (f _).trans h.c4, (f _).trans h.c5, (f _).trans h.c6, (f _).trans h.c7, (f _).trans h.c8, fun j => by simp only [World.frozen?_setCell]; exact h.fz j, owns_other h.own a u h2, h.ne⟩
theorem same_cell {w : World} {a : Addr} {u : Value} (v : Value) (h : w.cell? a = some u) : (w.setCell a v).cell? a = some v := World.cell?_setCell_same _ _ _ h
theorem St.setCur {w : World} {B base sz cap : Nat} {v : Value} {ps : List (Int × Int)} {nx : Nat} {cur : Int × Int} {fl : Nat} {lon : Int × Int} (h : St w B base sz cap v ps nx cur fl lon) (x y : Int) : St ((w.setCell ⟨B, 4, none⟩ (.int .i64 x)).setCell ⟨B, 5, none⟩ (.int .u64 y)) B base sz cap v ps nx (x, y) fl lon :=
  have f : ∀ j, j ≠ 4 → j ≠ 5 → ((w.setCell ⟨B, 4, none⟩ (.int .i64 x)).setCell ⟨B, 5, none⟩ (.int .u64 y)).cell? ⟨B, j, none⟩ = w.cell? ⟨B, j, none⟩ := fun j h4 h5 => (cell_far _ _ _ _ (.inr (fun e => h5 e.symm))).trans (cell_far _ _ _ _ (.inr (fun e => h4 e.symm)))
  ⟨(f _ (by simp) (by simp)).trans h.c0, (f _ (by simp) (by simp)).trans h.c1, (f _ (by simp) (by simp)).trans h.c2, (f _ (by simp) (by simp)).trans h.c3, (cell_far _ _ _ _ (.inr (by simp))).trans (same_cell _ h.c4), same_cell _ ((cell_far _ _ _ _ (.inr (by simp))).trans h.c5), (f _ (by simp) (by simp)).trans h.c6, (f _ (by simp) (by simp)).trans h.c7, (f _ (by simp) (by simp)).trans h.c8, fun j => by simp only [World.frozen?_setCell]; exact h.fz j, owns_other (owns_other h.own _ _ h.ne) _ _ h.ne, h.ne⟩
theorem St.setLon {w : World} {B base sz cap : Nat} {v : Value} {ps : List (Int × Int)} {nx : Nat} {cur : Int × Int} {fl : Nat} {lon : Int × Int} (h : St w B base sz cap v ps nx cur fl lon) (x y : Int) : St ((w.setCell ⟨B, 7, none⟩ (.int .i64 x)).setCell ⟨B, 8, none⟩ (.int .u64 y)) B base sz cap v ps nx cur fl (x, y) :=
  have f : ∀ j, j ≠ 7 → j ≠ 8 → ((w.setCell ⟨B, 7, none⟩ (.int .i64 x)).setCell ⟨B, 8, none⟩ (.int .u64 y)).cell? ⟨B, j, none⟩ = w.cell? ⟨B, j, none⟩ := fun j h4 h5 => (cell_far _ _ _ _ (.inr (fun e => h5 e.symm))).trans (cell_far _ _ _ _ (.inr (fun e => h4 e.symm)))
  ⟨(f _ (by simp) (by simp)).trans h.c0, (f _ (by simp) (by simp)).trans h.c1, (f _ (by simp) (by simp)).trans h.c2, (f _ (by simp) (by simp)).trans h.c3, (f _ (by simp) (by simp)).trans h.c4, (f _ (by simp) (by simp)).trans h.c5, (f _ (by simp) (by simp)).trans h.c6, (cell_far _ _ _ _ (.inr (by simp))).trans (same_cell _ h.c7), same_cell _ ((cell_far _ _ _ _ (.inr (by simp))).trans h.c8), fun j => by simp only [World.frozen?_setCell]; exact h.fz j, owns_other (owns_other h.own _ _ h.ne) _ _ h.ne, h.ne⟩
theorem St.setFl {w : World} {B base sz cap : Nat} {v : Value} {ps : List (Int × Int)} {nx : Nat} {cur : Int × Int} {fl : Nat} {lon : Int × Int} (h : St w B base sz cap v ps nx cur fl lon) (k : Nat) : St (w.setCell ⟨B, 6, none⟩ (.int .i64 (k : Int))) B base sz cap v ps nx cur k lon :=
  have f : ∀ j, j ≠ 6 → (w.setCell ⟨B, 6, none⟩ (.int .i64 (k : Int))).cell? ⟨B, j, none⟩ = w.cell? ⟨B, j, none⟩ := fun j h4 => (cell_far _ _ _ _ (.inr (fun e => h4 e.symm)))
  ⟨(f _ (by simp)).trans h.c0, (f _ (by simp)).trans h.c1, (f _ (by simp)).trans h.c2, (f _ (by simp)).trans h.c3, (f _ (by simp)).trans h.c4, (f _ (by simp)).trans h.c5, same_cell _ h.c6, (f _ (by simp)).trans h.c7, (f _ (by simp)).trans h.c8, fun j => by simp only [World.frozen?_setCell]; exact h.fz j, owns_other h.own _ _ h.ne, h.ne⟩

/-- The greatest of the ring and of m, as the loop finds it. -/
def ringMax (ps : List (Int × Int)) (m : Int × Int) : Int × Int := ps.foldl (fun m p => if ltB m p then p else m) m
def guardB (fl : Nat) (cur x : Int × Int) : Bool := (fl == 0) || ltB cur x
def curOf (fl : Nat) (cur x : Int × Int) : Int × Int := if guardB fl cur x then x else cur

theorem kp_trans {w w1 w2 : World} {S : Nat → Prop} (h : Kp w w1 S) (g : Kp w1 w2 S) : Kp w w2 S :=
  ⟨g.os.trans h.os, g.tape.trans h.tape, g.output.trans h.output, Nat.le_trans h.size g.size, fun k hk hS => (g.block k (Nat.lt_of_lt_of_le hk h.size) hS).trans (h.block k hk hS)⟩
theorem own_form {w : World} {base : Nat} {v : Value} {n : Nat} {ps : List (Int × Int)} (h : w.ownsRow base 40 2 v n (Pl ps)) : ∃ a c, v = .slice a n c ∧ (n = 0 ∨ ∃ g, a = some ⟨g, 0, none⟩) := by
  rcases h.2 with ⟨rfl, h0⟩ | ⟨g, cap, cur, rfl, _⟩
  · exact ⟨none, 0, by rw [h0], .inl h0⟩
  · exact ⟨_, _, rfl, .inr ⟨g, rfl⟩⟩
theorem pRing_len (ps : List (Int × Int)) (cap nx : Nat) (z : Int × Int) : (pRing ps cap nx z).length ≤ ps.length + 1 := by
  unfold pRing; split <;> simp

/-- v' lies where v lay, or in a block made since w. -/
def Fresh (w : World) (v v' : Value) : Prop := v'.ownBlock = v.ownBlock ∨ ∃ k, v'.ownBlock = some k ∧ w.heap.size ≤ k

set_option maxHeartbeats 2000000 in
theorem ladd_out (B base sz cap : Nat) (v : Value) (ps : List (Int × Int)) (nx : Nat) (cur : Int × Int) (fl : Nat) (lon : Int × Int) (x : Int × Int) (w : World) (h : St w B base sz cap v ps nx cur fl lon) (hfl : fl < sz) (hsz : (sz : Int) ≤ 9223372036854775807) (hnx : nx < cap) (hL : ps.length ≤ 1048576) (hb : base ≤ w.heap.size)
    (out : Ending → World → Prop)
    (hout : Hid (∀ w' v', St w' B base sz cap v' (if fl + 1 = sz then pRing ps cap nx (curOf fl cur x) else ps) (if fl + 1 = sz then pNx ps cap nx else nx) (curOf fl cur x) (if fl + 1 = sz then 0 else fl + 1) (ringMax (if fl + 1 = sz then pRing ps cap nx (curOf fl cur x) else ps) (curOf fl cur x)) → Kp w w' (fun k => k = B ∨ v.ownBlock = some k) → Fresh w v v' → out (.returned (.tuple #[])) w')) :
    Calls Try.prog 39 #[.pointer (some ⟨B, 0, none⟩), .agg #[.int .i64 x.1, .int .u64 x.2]] w out := by
  have hB := h.lt
  go_enter Try.func39, Try.ntmps39
  go_upto_region 1 with fail
  obtain ⟨W1, hW1⟩ : ∃ W1, W1 = w.alloc (.cells #[.int .i64 x.1, .int .u64 x.2] 40) := ⟨_, rfl⟩
  rw [← hW1]
  have h1 : St W1 B base sz cap v ps nx cur fl lon := by rw [hW1]; exact h.grown (World.grownBy_alloc _ _ _)
  have b0 : W1.cell? ⟨w.heap.size, 0, none⟩ = some (.int .i64 x.1) := by rw [hW1]; simp [go_sem]
  have b1 : W1.cell? ⟨w.heap.size, 1, none⟩ = some (.int .u64 x.2) := by rw [hW1]; simp [go_sem]
  have hs1 : w.heap.size + 1 ≤ W1.heap.size := by rw [hW1]; simp
  have K1 : Kp w W1 (fun k => k = B ∨ v.ownBlock = some k) := by rw [hW1]; exact (Kp.refl w _).grown (World.grownBy_alloc _ _ none) (fun k h => by cases h)
  clear hW1
  go_cut [19] from 6 (fun s wx => s = .bool (guardB fl cur x) ∧ W1.grownBy wx none)
  case first =>
    have c4 := h1.c4
    have c5 := h1.c5
    have c6 := h1.c6
    by_cases h0 : fl = 0
    · subst h0
      have hg : guardB 0 cur x = true := rfl
      have cz : W1.cell? ⟨B, 6, none⟩ = some (.int .i64 0) := c6
      clear h1 h c6
      go_quiet (fail)
      go_wp2_with fail
      go_meet
      case rel => exact ⟨by rw [hg], grownBy_drewN _ _ _⟩
    · have hg : guardB fl cur x = decide (0 < cmpI x cur) := by rw [cmpI_pos]; simp [guardB, h0]
      have hz : ((fl : Int) == 0) = false := by simpa using h0
      clear h1 h
      go_region_held3 (fun w' => w'.cell? ⟨B, 4, none⟩ = some (.int .i64 cur.1) ∧ w'.cell? ⟨B, 5, none⟩ = some (.int .u64 cur.2) ∧ w'.cell? ⟨B, 6, none⟩ = some (.int .i64 (fl : Int)) ∧ w'.cell? ⟨w.heap.size, 0, none⟩ = some (.int .i64 x.1) ∧ w'.cell? ⟨w.heap.size, 1, none⟩ = some (.int .u64 x.2)) (go_keep)
        (first | (go_at_call 44; refine (cmp_any _ _ _ _ _).mono ?_; rintro e w' ⟨rfl, rfl⟩))
      all_goals go_wp2_with fail
      all_goals go_meet
      all_goals
        case rel =>
          rw [hg]
          exact ⟨rfl, by repeat (first | exact World.grownBy.refl _ _ | refine grown_alloc ?_ _ | refine grown_drew ?_)⟩
  case rest =>
    obtain ⟨rfl, hg1⟩ := hcut
    have h2 := h1.grown hg1
    have K2 := K1.grown hg1 (fun k h => by cases h)
    have d0 := grownBy_cell hg1 b0
    have d1 := grownBy_cell hg1 b1
    have hs2 := Nat.le_trans hs1 hg1.size
    clear h1 K1 b0 b1 hs1 hg1 h
    go_upto_if 19 with fail
    go_cut [] from 6 (fun wx => St wx B base sz cap v ps nx (curOf fl cur x) fl lon ∧ Kp w wx (fun k => k = B ∨ v.ownBlock = some k))
    case first =>
      have c4 := h2.c4
      have c5 := h2.c5
      have z4 := h2.fz 4
      have z5 := h2.fz 5
      cases hg : guardB fl cur x
      · have hcu : curOf fl cur x = cur := by simp [curOf, hg]
        go_wp2
        go_meet
        case rel =>
          rw [hcu]
          exact ⟨h2, K2⟩
      · have hcu : curOf fl cur x = x := by simp [curOf, hg]
        go_wp2
        go_meet
        case rel =>
          rw [hcu]
          exact ⟨h2.setCur x.1 x.2, Kp.setCell (Kp.setCell K2 (Or.inl (Or.inl rfl)) _) (Or.inl (Or.inl rfl)) _⟩
    case rest =>
      obtain ⟨h3, K3⟩ := hcut
      clear h2 K2 d0 d1 hs2
      have c0 := h3.c0
      have c6 := h3.c6
      have z6 := h3.fz 6
      have hov : (fl : Int) + 1 ≤ 9223372036854775807 := by omega
      have hov0 : (0 : Int) ≤ (fl : Int) := by omega
      go_upto_region 4 with fail
      go_quiet (fail)
      obtain ⟨W4, hW4⟩ : ∃ W4, W4 = (wc.setCell ⟨B, 6, none⟩ (.int .i64 ((fl : Int) + 1))).drewN nq := ⟨_, rfl⟩
      rw [← hW4]
      have h4 : St W4 B base sz cap v ps nx (curOf fl cur x) (fl + 1) lon := by rw [hW4]; exact (h3.setFl (fl + 1)).grown (grownBy_drewN _ _ _)
      have K4 : Kp w W4 (fun k => k = B ∨ v.ownBlock = some k) := by rw [hW4]; exact (Kp.setCell K3 (Or.inl (Or.inl rfl)) _).drewN nq
      clear hW4 h3 K3 c0 c6 z6
      generalize hcu : curOf fl cur x = cur' at h4
      have HCU : Hid (curOf fl cur x = cur') := hcu
      clear hcu
      go_upto_if 39 with fail
      go_cut [] from 6 (fun wx => ∃ v', St wx B base sz cap v' (if fl + 1 = sz then pRing ps cap nx cur' else ps) (if fl + 1 = sz then pNx ps cap nx else nx) cur' (if fl + 1 = sz then 0 else fl + 1) lon ∧ Kp w wx (fun k => k = B ∨ v.ownBlock = some k) ∧ Fresh w v v')
      case first =>
        by_cases hfs : fl + 1 = sz
        · have hqe : ((fl : Int) + 1 == (sz : Int)) = true := by simp; omega
          rw [hqe]
          have HFS : Hid (fl + 1 = sz) := hfs
          clear hqe hfs
          obtain ⟨a, c, rfl, _⟩ := own_form h4.own
          have c4 := h4.c4
          have c5 := h4.c5
          have HH : Hid (∀ wx, W4.grownBy wx none → St wx B base sz cap (.slice a ps.length c) ps nx cur' (fl + 1) lon) := fun wx g => h4.grown g
          have hbb : Hid (∀ wx, W4.grownBy wx none → base ≤ wx.heap.size) := fun wx g => Nat.le_trans hb (Nat.le_trans K4.size g.size)
          have H4 : Hid (St W4 B base sz cap (.slice a ps.length c) ps nx cur' (fl + 1) lon) := h4
          clear h4
          go_upto_region 5 with fail
          have h5 := HH.out W4.drew (grownBy_drew _ _)
          have P := padd_any B base a c ps cap nx cur'.1 cur'.2 W4.drew h5.c1 h5.c2 h5.c3 h5.fz hnx h5.ne (by omega) (hbb.out _ (grownBy_drew _ _)) h5.own
          clear h5 HH hbb
          go_region_with (refine P.mono ?_; rintro e w' ⟨⟨r, rfl⟩, v1, r1, r2, r3, r4, rf, r5, r6⟩)
          have h4 := H4.out
          have d6 : w'.cell? ⟨B, 6, none⟩ = some (.int .i64 ((fl : Int) + 1)) := (r4 6 (by simp) (by simp)).trans h4.c6
          have f6 := rf 6
          have hB4 := h4.lt
          have h6 : St w' B base sz cap v1 (pRing ps cap nx cur') (pNx ps cap nx) cur' (fl + 1) lon := ⟨(r4 0 (by simp) (by simp)).trans h4.c0, (r4 1 (by simp) (by simp)).trans h4.c1, r2, r3, (r4 4 (by simp) (by simp)).trans h4.c4, (r4 5 (by simp) (by simp)).trans h4.c5, d6, (r4 7 (by simp) (by simp)).trans h4.c7, (r4 8 (by simp) (by simp)).trans h4.c8, rf, r1, (by
            rcases r6 with e | ⟨k, e, hk⟩
            · rw [e]; exact h4.ne
            · rw [e]; intro h; cases h; simp at hk; omega)⟩
          have K6 : Kp w w' (fun k => k = B ∨ (Value.slice a ps.length c).ownBlock = some k) := kp_trans K4.drew r5
          have F6 : Fresh w (Value.slice a ps.length c) v1 := r6.elim .inl fun ⟨k, e, hk⟩ => .inr ⟨k, e, Nat.le_trans K4.size (by simpa using hk)⟩
          have H6 : Hid (_ ∧ _ ∧ _) := ⟨h6, K6, F6⟩
          clear F6 h6 K6 r1 r2 r3 r4 rf r5 r6 h4 P c4 c5
          go_wp2
          go_meet
          case rel =>
            simp only [if_pos HFS.out]
            obtain ⟨h6, K6, F6⟩ := H6.out
            exact ⟨v1, h6.setFl 0, K6.setCell (Or.inl (Or.inl rfl)) _, F6⟩
        · have hne : ((fl : Int) + 1 == (sz : Int)) = false := by simp; omega
          rw [hne]
          have HFS : Hid (¬ fl + 1 = sz) := hfs
          clear hne hfs
          go_wp2
          go_meet
          case rel =>
            simp only [if_neg HFS.out]
            exact ⟨v, h4, K4, .inl rfl⟩
      case rest =>
        obtain ⟨v', h5, K5, F5⟩ := hcut
        have HF : Hid (Fresh w v v') := F5
        clear F5
        generalize hps : (if fl + 1 = sz then pRing ps cap nx cur' else ps) = ps' at h5
        generalize hnx' : (if fl + 1 = sz then pNx ps cap nx else nx) = nx' at h5
        generalize hfl' : (if fl + 1 = sz then 0 else fl + 1) = fl' at h5
        have hL' : ps'.length ≤ 1048577 := by
          have := pRing_len ps cap nx cur'
          rw [← hps]; split <;> omega
        have HE : Hid (_ ∧ _ ∧ _) := ⟨hps, hnx', hfl'⟩
        clear hps hnx' hfl' h4 K4
        obtain ⟨a, c, rfl, hag⟩ := own_form h5.own
        have c2 := h5.c2
        have c4 := h5.c4
        have c5 := h5.c5
        have c7 := h5.c7
        have c8 := h5.c8
        have z7 := h5.fz 7
        have z8 := h5.fz 8
        have H5 : Hid (_ ∧ _) := ⟨h5, K5⟩
        clear h5 K5
        go_wp2
        go_loopw [64] (fun si wr => ∃ (k : Nat) (m : Int × Int), k ≤ ps'.length ∧ si = .int .i64 k ∧ St wr B base sz cap (.slice a ps'.length c) ps' nx' cur' fl' m ∧ Hid ((ps'.drop k).foldl (fun m p => if ltB m p then p else m) m = ringMax ps' cur') ∧ Kp w wr (fun k => k = B ∨ v.ownBlock = some k)) (fun si _ => ps'.length - (intOf si).toNat)
        case atStart =>
          obtain ⟨h5, K5⟩ := H5.out
          exact ⟨0, cur', Nat.zero_le _, rfl, h5.setLon cur'.1 cur'.2, rfl, Kp.setCell (Kp.setCell K5 (Or.inl (Or.inl rfl)) _) (Or.inl (Or.inl rfl)) _⟩
        case round =>
          obtain ⟨k, m, hk, rfl, hst, hmx, hK⟩ := hrel
          clear c2 c4 c5 c7 c8 z7 z8 H5 hov hov0 hsz hfl hL hnx
          by_cases hlt : k < ps'.length
          · rcases hag with h0 | ⟨g, rfl⟩
            · omega
            have hat := Pl_at ps' k hlt
            have x1 : wr.cell? ⟨g, k * 2, none⟩ = some (.int .i64 (ps'.getD k (0, 0)).1) := by rw [hst.own.cellAt _ (by omega)]; exact hat.1
            have x2 : wr.cell? ⟨g, k * 2 + 1, none⟩ = some (.int .u64 (ps'.getD k (0, 0)).2) := by rw [hst.own.cellAt _ (by omega)]; exact hat.2
            have HN : Hid ((ps'.drop (k + 1)).foldl (fun m p => if ltB m p then p else m) (if ltB m (ps'.getD k (0, 0)) then ps'.getD k (0, 0) else m) = ringMax ps' cur') := by
              have := hmx.out
              rw [List.drop_eq_getElem_cons hlt, List.foldl_cons] at this
              have eg : ps'.getD k (0, 0) = ps'[k] := by simp [List.getD, List.getElem?_eq_getElem hlt]
              rw [eg]
              exact this
            generalize ps'.getD k (0, 0) = z at x1 x2 HN
            obtain ⟨z1, z2⟩ := z
            obtain ⟨m1, m2⟩ := m
            have y7 := hst.c7
            have y8 := hst.c8
            have hBr := hst.lt
            have hki : (0 : Int) ≤ (k : Int) := by omega
            have hkp : (k : Int) < (ps'.length : Int) := by omega
            have HS : Hid (_ ∧ _) := ⟨hst, hK⟩
            have fz7 := hst.fz 7
            have fz8 := hst.fz 8
            clear hat hmx hst hK
            go_upto_region 11 with fail
            obtain ⟨W5, hW5⟩ : ∃ W5, W5 = wr.alloc (Obj.cells #[Value.int IntKind.i64 z1, Value.int IntKind.u64 z2] 40) := ⟨_, rfl⟩
            rw [← hW5]
            have s5 : wr.heap.size + 1 = W5.heap.size := by rw [hW5]; simp
            have hg5 : wr.grownBy W5 none := by rw [hW5]; exact World.grownBy_alloc _ _ _
            have b0 : W5.cell? ⟨wr.heap.size, 0, none⟩ = some (.int .i64 z1) := by rw [hW5]; simp [go_sem]
            have b1 : W5.cell? ⟨wr.heap.size, 1, none⟩ = some (.int .u64 z2) := by rw [hW5]; simp [go_sem]
            have y7' := grownBy_cell hg5 y7
            have y8' := grownBy_cell hg5 y8
            have hbk : W5.heap[B]? = wr.heap[B]? := hg5.block B hBr (by simp)
            have fz7' := (World.frozen?_of_block hbk (a := ⟨B, 7, none⟩)).trans fz7
            have fz8' := (World.frozen?_of_block hbk (a := ⟨B, 8, none⟩)).trans fz8
            have A1 : ∀ o1 o2, ((W5.alloc o1).alloc o2).cell? ⟨B, 7, none⟩ = some (.int .i64 m1) := fun o1 o2 => cell_two y7' o1 o2
            have A2 : ∀ o1 o2, ((W5.alloc o1).alloc o2).cell? ⟨B, 8, none⟩ = some (.int .u64 m2) := fun o1 o2 => cell_two y8' o1 o2
            have A3 : ∀ o1 o2, ((W5.alloc o1).alloc o2).cell? ⟨wr.heap.size, 0, none⟩ = some (.int .i64 z1) := fun o1 o2 => cell_two b0 o1 o2
            have A4 : ∀ o1 o2, ((W5.alloc o1).alloc o2).cell? ⟨wr.heap.size, 1, none⟩ = some (.int .u64 z2) := fun o1 o2 => cell_two b1 o1 o2
            have A5 : ∀ o1 o2, ((W5.alloc o1).alloc o2).frozen? ⟨B, 7, none⟩ = false := fun o1 o2 => by rw [frozen_two (by simp; omega)]; exact fz7'
            have A6 : ∀ o1 o2, ((W5.alloc o1).alloc o2).frozen? ⟨B, 8, none⟩ = false := fun o1 o2 => by rw [frozen_two (by simp; omega)]; exact fz8'
            have HG5 : Hid (wr.grownBy W5 none) := hg5
            clear hW5 hbk hg5 y7 y8 fz7 fz8 x1 x2 hki hkp
            cases hb : ltB (m1, m2) (z1, z2)
            · have hd : decide (0 < cmpI (z1, z2) (m1, m2)) = false := by rw [cmpI_pos]; exact hb
              rw [hb] at HN
              go_region_held3 (fun w' => w'.cell? ⟨B, 7, none⟩ = some (.int .i64 m1) ∧ w'.cell? ⟨B, 8, none⟩ = some (.int .u64 m2) ∧ w'.cell? ⟨wr.heap.size, 0, none⟩ = some (.int .i64 z1) ∧ w'.cell? ⟨wr.heap.size, 1, none⟩ = some (.int .u64 z2)) (go_keep)
                (first | (go_at_call 44; refine (cmp_any _ _ _ _ _).mono ?_; rintro e w' ⟨rfl, rfl⟩))
              all_goals go_wp2
              all_goals go_roundw
              case rel =>
                obtain ⟨hst, hK⟩ := HS.out
                have G := grown_drew (grown_alloc (grown_alloc HG5.out (Obj.cells #[Value.int IntKind.i64 z1, Value.int IntKind.u64 z2] 40)) (Obj.cells #[Value.int IntKind.i64 m1, Value.int IntKind.u64 m2] 40))
                exact ⟨k + 1, (m1, m2), by omega, by go_num, hst.grown G, by have q := HN.out; simp at q; exact q, hK.grown G (fun k h => by cases h)⟩
              case measure => simp [intOf]; omega
            · have hd : decide (0 < cmpI (z1, z2) (m1, m2)) = true := by rw [cmpI_pos]; exact hb
              rw [hb] at HN
              go_region_held3 (fun w' => w'.cell? ⟨B, 7, none⟩ = some (.int .i64 m1) ∧ w'.cell? ⟨B, 8, none⟩ = some (.int .u64 m2) ∧ w'.cell? ⟨wr.heap.size, 0, none⟩ = some (.int .i64 z1) ∧ w'.cell? ⟨wr.heap.size, 1, none⟩ = some (.int .u64 z2)) (go_keep)
                (first | (go_at_call 44; refine (cmp_any _ _ _ _ _).mono ?_; rintro e w' ⟨rfl, rfl⟩))
              all_goals go_wp2
              all_goals go_roundw
              case rel =>
                obtain ⟨hst, hK⟩ := HS.out
                have G := grown_alloc (grown_alloc HG5.out (Obj.cells #[Value.int IntKind.i64 z1, Value.int IntKind.u64 z2] 40)) (Obj.cells #[Value.int IntKind.i64 m1, Value.int IntKind.u64 m2] 40)
                exact ⟨k + 1, (z1, z2), by omega, by go_num, ((hst.grown G).setLon z1 z2).grown (grownBy_drew _ _), by have q := HN.out; simp at q; exact q, (((hK.grown G (fun k h => by cases h)).setCell (Or.inl (Or.inl rfl)) _).setCell (Or.inl (Or.inl rfl)) _).drew⟩
              case measure => simp [intOf]; omega
          · go_wp2
            obtain rfl : k = ps'.length := by omega
            have e : m = ringMax ps' cur' := by have := hmx.out; simpa using this
            obtain ⟨hps, hnx', hfl'⟩ := HE.out
            go_end0
            subst e
            refine hout.out _ (.slice a ps'.length c) ?_ hK HF.out
            rw [HCU.out, hps, hnx', hfl']
            exact hst
end Go.Proofs.Qxb6601294a
