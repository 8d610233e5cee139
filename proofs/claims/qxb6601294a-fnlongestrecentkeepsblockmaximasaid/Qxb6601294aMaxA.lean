import Derived.Test.Qxb6601294aLrPlain
namespace Go.Proofs.Qxb6601294a
open Go.RowKit

set_option maxHeartbeats 400000 in
theorem bytes21_any (a0 b0 : Int) (a1 : Option Addr) (len cap : Nat) (w : World) : Calls Try.prog 21 #[.int .i64 a0, .int .i64 b0, .slice a1 len cap] w fun e w' => ∃ b, e = .returned (.bool b) ∧ w' = w := by
  go_enter Try.func21, Try.ntmps21
  go_wp2
  all_goals
    go_ret
    exact ⟨_, rfl, rfl⟩
set_option maxHeartbeats 400000 in
theorem bytes27_any (a0 b0 : Int) (a1 : Option Addr) (len cap : Nat) (w : World) : Calls Try.prog 27 #[.int .i64 a0, .int .i64 b0, .slice a1 len cap] w fun e w' => ∃ b, e = .returned (.bool b) ∧ w' = w := by
  go_enter Try.func27, Try.ntmps27
  go_wp2
  all_goals
    go_ret
    exact ⟨_, rfl, rfl⟩

theorem cell_drew {w : World} {a : Addr} {v : Value} (h : w.cell? a = some v) : w.drew.cell? a = some v := h
theorem cell_set {w : World} {a b : Addr} {u v : Value} (h : w.cell? b = some v) (hn : a.block ≠ b.block) : (w.setCell a u).cell? b = some v := (cell_far w a b u (.inl hn)).trans h
theorem frozen_one {w : World} {a : Addr} {v : Value} (h : w.cell? a = some v) (hf : w.frozen? a = false) (o : Obj) : (w.alloc o).frozen? a = false :=
  (World.frozen?_of_block (Below.heap_alloc _ _ _ (World.block_lt_of_cell? _ _ h))).trans hf

theorem cell_new0 {w : World} {n : Nat} {a b : Value} {t : TypeId} (h : n = w.heap.size) : (w.alloc (.cells #[a, b] t)).cell? ⟨n, 0, none⟩ = some a := by subst h; simp [go_sem]
theorem cell_new1 {w : World} {n : Nat} {a b : Value} {t : TypeId} (h : n = w.heap.size) : (w.alloc (.cells #[a, b] t)).cell? ⟨n, 1, none⟩ = some b := by subst h; simp [go_sem]
theorem own_new {v v2 : Value} {wx : World} (F : Fresh wx v v2) {k n : Nat} (hv : ∀ j, v.ownBlock = some j → j < n) (h1 : n ≤ k) (h2 : k < wx.heap.size) : v2.ownBlock ≠ some k := by
  intro e
  rcases F with h | ⟨j, hj, hl⟩
  · have := hv k (h ▸ e)
    omega
  · rw [hj] at e
    cases e
    omega
theorem below_new {w W0 wr : World} {S : Nat → Prop} (g : w.grownBy W0 none) (K : Kp W0 wr S) (hS : ∀ k, k < w.heap.size → ¬ S k) : Below w.heap.size w wr :=
  have b := grownBy_below g
  ⟨K.os.trans b.os, K.tape.trans b.tape, K.output.trans b.output, Nat.le_trans b.size K.size, fun k hk => (K.block k (Nat.lt_of_lt_of_le hk b.size) (hS k hk)).trans (b.block k hk)⟩
theorem frozen_drew (w : World) (a : Addr) : w.drew.frozen? a = w.frozen? a := rfl
theorem heap_drew (w : World) : w.drew.heap = w.heap := rfl
set_option maxHeartbeats 1000000 in
theorem put_two {W0 wc W6 : World} {b10 b11 : Nat} {rg : List (Int × Int)} {v : Value} {p0 p1 p2 p3 u0 u1 u2 u3 : Value} (KW : Kp W0 wc (fun k => k = b10 ∨ k = b11)) (hO : wc.ownsRow W0.heap.size 40 2 v rg.length (Pl rg))
    (hW : W6 = ((((wc.setCell ⟨b10, 0, none⟩ u0).setCell ⟨b10, 1, none⟩ u1).setCell ⟨b11, 0, none⟩ u2).setCell ⟨b11, 1, none⟩ u3).drew) (y0 : wc.cell? ⟨b10, 0, none⟩ = some p0) (y1 : wc.cell? ⟨b10, 1, none⟩ = some p1) (y2 : wc.cell? ⟨b11, 0, none⟩ = some p2) (y3 : wc.cell? ⟨b11, 1, none⟩ = some p3)
    (f10 : ∀ j, wc.frozen? ⟨b10, j, none⟩ = false) (f11 : ∀ j, wc.frozen? ⟨b11, j, none⟩ = false) (n1 : b10 ≠ b11) (h1 : b10 < W0.heap.size) (h2 : b11 < W0.heap.size) (b : Nat) (n2 : b ≠ b10) (n3 : b ≠ b11) :
    W6.cell? ⟨b10, 0, none⟩ = some u0 ∧ W6.cell? ⟨b10, 1, none⟩ = some u1 ∧ W6.cell? ⟨b11, 0, none⟩ = some u2 ∧ W6.cell? ⟨b11, 1, none⟩ = some u3 ∧ ((∀ j, W6.frozen? ⟨b10, j, none⟩ = false) ∧ ∀ j, W6.frozen? ⟨b11, j, none⟩ = false) ∧ Kp W0 W6 (fun k => k = b10 ∨ k = b11) ∧ W6.ownsRow W0.heap.size 40 2 v rg.length (Pl rg) ∧ W6.heap[b]? = wc.heap[b]? := by
  have hne : ∀ j, j < W0.heap.size → v.ownBlock ≠ some j := fun j hj h => by have := (hO.lt _ h).1; omega
  have t1 := two_set wc b10 p0 p1 u0 u1 y0 y1
  have t2 := two_set ((wc.setCell ⟨b10, 0, none⟩ u0).setCell ⟨b10, 1, none⟩ u1) b11 p2 p3 u2 u3 (cell_set (cell_set y2 n1) n1) (cell_set (cell_set y3 n1) n1)
  subst hW
  have e1 := cell_set (u := u3) (a := ⟨b11, 1, none⟩) (cell_set (u := u2) (a := ⟨b11, 0, none⟩) t1.1 n1.symm) n1.symm
  have e2 := cell_set (u := u3) (a := ⟨b11, 1, none⟩) (cell_set (u := u2) (a := ⟨b11, 0, none⟩) t1.2 n1.symm) n1.symm
  refine ⟨cell_drew e1, cell_drew e2, cell_drew t2.1, cell_drew t2.2, ⟨fun j => ?_, fun j => ?_⟩, ?_, ?_, ?_⟩
  · refine Eq.trans ?_ (f10 j)
    simp only [frozen_drew, World.frozen?_setCell]
  · refine Eq.trans ?_ (f11 j)
    simp only [frozen_drew, World.frozen?_setCell]
  · exact ((((KW.setCell (.inl (.inl rfl)) _).setCell (.inl (.inl rfl)) _).setCell (.inl (.inr rfl)) _).setCell (.inl (.inr rfl)) _).drew
  · exact owns_grown (owns_other (owns_other (owns_other (owns_other hO _ _ (hne _ h1)) _ _ (hne _ h1)) _ _ (hne _ h2)) _ _ (hne _ h2)) (grownBy_drew _ none)
  · rw [heap_drew, Below.heap_setCell _ _ _ _ n3, Below.heap_setCell _ _ _ _ n3, Below.heap_setCell _ _ _ _ n2, Below.heap_setCell _ _ _ _ n2]
theorem kp_new {W0 wr W5 wc : World} {S : Nat → Prop} {own : Option Nat} (h : Kp W0 wr S) (g : wr.grownBy W5 none) (K : Kp W5 wc (fun k => own = some k)) (hn : ∀ k, k < W0.heap.size → own ≠ some k) : Kp W0 wc S :=
  have g2 := h.grown g (fun k h => by cases h)
  ⟨K.os.trans g2.os, K.tape.trans g2.tape, K.output.trans g2.output, Nat.le_trans g2.size K.size, fun k hk hS => (K.block k (Nat.lt_of_lt_of_le hk g2.size) (hn k hk)).trans (g2.block k hk hS)⟩
theorem minInt_any' (a b : Int) (w : World) : Calls Try.prog 20 #[.int .i64 a, .int .i64 b] w fun e w' => e = .returned (.int .i64 (min a b)) ∧ w = w' := by
  by_cases h : a < b
  · have e : min a b = a := by omega
    rw [e]
    go_enter Try.func20, Try.ntmps20
    go_wp2
    go_ret
    exact ⟨rfl, rfl⟩
  · have e : min a b = b := by omega
    rw [e]
    go_enter Try.func20, Try.ntmps20
    go_wp2
    go_ret
    exact ⟨rfl, rfl⟩

/-- What a call that writes the ring alone leaves of the blocks that lay there. -/
theorem aft {W wx w2 : World} {own : Option Nat} (K2 : Kp wx w2 (fun k => own = some k)) (G : W.grownBy wx none) (hlo : ∀ k, own = some k → k < W.heap.size) :
    (∀ k j, W.heap.size ≤ k → k < wx.heap.size → w2.cell? ⟨k, j, none⟩ = wx.cell? ⟨k, j, none⟩) ∧ (∀ k j, W.heap.size ≤ k → k < wx.heap.size → w2.frozen? ⟨k, j, none⟩ = wx.frozen? ⟨k, j, none⟩) ∧
      (∀ k, own ≠ some k → ∀ j v, W.cell? ⟨k, j, none⟩ = some v → w2.cell? ⟨k, j, none⟩ = some v) ∧ Kp W w2 (fun k => own = some k) ∧ wx.heap.size ≤ w2.heap.size := by
  have blk : ∀ k, W.heap.size ≤ k → k < wx.heap.size → w2.heap[k]? = wx.heap[k]? := fun k h1 h2 => K2.block k h2 (fun e => by have := hlo k e; omega)
  refine ⟨fun k j h1 h2 => World.cell?_of_block (blk k h1 h2), fun k j h1 h2 => World.frozen?_of_block (blk k h1 h2), fun k hk j v hv => ?_, kp_trans ((Kp.refl W _).grown G (fun k h => by cases h)) K2, K2.size⟩
  have hlt := World.block_lt_of_cell? _ _ hv
  exact (World.cell?_of_block (K2.block k (Nat.lt_of_lt_of_le hlt G.size) hk)).trans (grownBy_cell G hv)

/-- The four ways in which the two result boxes come to be: both behind the call; one; none. -/
theorem fin_A {W5 w2 wx : World} {v v2 : Value} {base n : Nat} {rg : List (Int × Int)} {a b c d : Value} (HR : w2.ownsRow base 40 2 v2 n (Pl rg) ∧ Kp W5 w2 (fun k => v.ownBlock = some k) ∧ Fresh wx v v2) (_ : ∀ k, v.ownBlock = some k → k < W5.heap.size) :
    ((w2.alloc (.cells #[a, b] 40)).alloc (.cells #[c, d] 40)).cell? ⟨w2.heap.size, 0, none⟩ = some a ∧ ((w2.alloc (.cells #[a, b] 40)).alloc (.cells #[c, d] 40)).cell? ⟨w2.heap.size, 1, none⟩ = some b ∧
    ((w2.alloc (.cells #[a, b] 40)).alloc (.cells #[c, d] 40)).cell? ⟨w2.heap.size + 1, 0, none⟩ = some c ∧ ((w2.alloc (.cells #[a, b] 40)).alloc (.cells #[c, d] 40)).cell? ⟨w2.heap.size + 1, 1, none⟩ = some d ∧
    W5.heap.size ≤ w2.heap.size ∧ W5.heap.size ≤ w2.heap.size + 1 ∧ w2.heap.size ≠ w2.heap.size + 1 ∧ ((w2.alloc (.cells #[a, b] 40)).alloc (.cells #[c, d] 40)).ownsRow base 40 2 v2 n (Pl rg) ∧ Kp W5 ((w2.alloc (.cells #[a, b] 40)).alloc (.cells #[c, d] 40)) (fun k => v.ownBlock = some k) := by
  have hs := HR.2.1.size
  exact ⟨cell_one (cell_new0 rfl) _, cell_one (cell_new1 rfl) _, cell_new0 (by simp), cell_new1 (by simp), hs, by omega, by omega, owns_grown HR.1 (grown_alloc (World.grownBy_alloc _ _ none) _), HR.2.1.grown (grown_alloc (World.grownBy_alloc _ _ none) _) (fun k h => by cases h)⟩
theorem fin_A' {W5 w2 wx : World} {v v2 : Value} {base n : Nat} {rg : List (Int × Int)} {a b c d : Value} (HR : w2.ownsRow base 40 2 v2 n (Pl rg) ∧ Kp W5 w2 (fun k => v.ownBlock = some k) ∧ Fresh wx v v2) (_ : ∀ k, v.ownBlock = some k → k < W5.heap.size) :
    ((w2.alloc (.cells #[c, d] 40)).alloc (.cells #[a, b] 40)).cell? ⟨w2.heap.size + 1, 0, none⟩ = some a ∧ ((w2.alloc (.cells #[c, d] 40)).alloc (.cells #[a, b] 40)).cell? ⟨w2.heap.size + 1, 1, none⟩ = some b ∧
    ((w2.alloc (.cells #[c, d] 40)).alloc (.cells #[a, b] 40)).cell? ⟨w2.heap.size, 0, none⟩ = some c ∧ ((w2.alloc (.cells #[c, d] 40)).alloc (.cells #[a, b] 40)).cell? ⟨w2.heap.size, 1, none⟩ = some d ∧
    W5.heap.size ≤ w2.heap.size + 1 ∧ W5.heap.size ≤ w2.heap.size ∧ w2.heap.size + 1 ≠ w2.heap.size ∧ ((w2.alloc (.cells #[c, d] 40)).alloc (.cells #[a, b] 40)).ownsRow base 40 2 v2 n (Pl rg) ∧ Kp W5 ((w2.alloc (.cells #[c, d] 40)).alloc (.cells #[a, b] 40)) (fun k => v.ownBlock = some k) := by
  have hs := HR.2.1.size
  exact ⟨cell_new0 (by simp), cell_new1 (by simp), cell_one (cell_new0 rfl) _, cell_one (cell_new1 rfl) _, by omega, hs, by omega, owns_grown HR.1 (grown_alloc (World.grownBy_alloc _ _ none) _), HR.2.1.grown (grown_alloc (World.grownBy_alloc _ _ none) _) (fun k h => by cases h)⟩
theorem fin_B {W5 w2 wx : World} {v v2 : Value} {base n p : Nat} {rg : List (Int × Int)} {a b c d z0 z1 : Value} (HR : w2.ownsRow base 40 2 v2 n (Pl rg) ∧ Kp W5 w2 (fun k => v.ownBlock = some k) ∧ Fresh wx v v2) (HL : ∀ k, v.ownBlock = some k → k < W5.heap.size)
    (e0 : w2.cell? ⟨p, 0, none⟩ = some z0) (e1 : w2.cell? ⟨p, 1, none⟩ = some z1) (l : W5.heap.size ≤ p) (m : p < wx.heap.size) :
    (((w2.setCell ⟨p, 0, none⟩ a).setCell ⟨p, 1, none⟩ b).alloc (.cells #[c, d] 40)).cell? ⟨p, 0, none⟩ = some a ∧ (((w2.setCell ⟨p, 0, none⟩ a).setCell ⟨p, 1, none⟩ b).alloc (.cells #[c, d] 40)).cell? ⟨p, 1, none⟩ = some b ∧
    (((w2.setCell ⟨p, 0, none⟩ a).setCell ⟨p, 1, none⟩ b).alloc (.cells #[c, d] 40)).cell? ⟨w2.heap.size, 0, none⟩ = some c ∧ (((w2.setCell ⟨p, 0, none⟩ a).setCell ⟨p, 1, none⟩ b).alloc (.cells #[c, d] 40)).cell? ⟨w2.heap.size, 1, none⟩ = some d ∧
    W5.heap.size ≤ p ∧ W5.heap.size ≤ w2.heap.size ∧ p ≠ w2.heap.size ∧ (((w2.setCell ⟨p, 0, none⟩ a).setCell ⟨p, 1, none⟩ b).alloc (.cells #[c, d] 40)).ownsRow base 40 2 v2 n (Pl rg) ∧ Kp W5 (((w2.setCell ⟨p, 0, none⟩ a).setCell ⟨p, 1, none⟩ b).alloc (.cells #[c, d] 40)) (fun k => v.ownBlock = some k) := by
  have hs := HR.2.1.size
  have hp : p < w2.heap.size := World.block_lt_of_cell? _ _ e0
  have t := two_set w2 p z0 z1 a b e0 e1
  have hn : v2.ownBlock ≠ some p := own_new HR.2.2 HL l m
  exact ⟨cell_one t.1 _, cell_one t.2 _, cell_new0 (by simp), cell_new1 (by simp), l, hs, by omega, owns_grown (owns_other (owns_other HR.1 _ _ hn) _ _ hn) (World.grownBy_alloc _ _ none), ((HR.2.1.setCell (Or.inr l) _).setCell (Or.inr l) _).grown (World.grownBy_alloc _ _ none) (fun k h => by cases h)⟩
theorem fin_C {W5 w2 wx : World} {v v2 : Value} {base n p : Nat} {rg : List (Int × Int)} {a b c d z0 z1 : Value} (HR : w2.ownsRow base 40 2 v2 n (Pl rg) ∧ Kp W5 w2 (fun k => v.ownBlock = some k) ∧ Fresh wx v v2) (HL : ∀ k, v.ownBlock = some k → k < W5.heap.size)
    (e0 : w2.cell? ⟨p, 0, none⟩ = some z0) (e1 : w2.cell? ⟨p, 1, none⟩ = some z1) (l : W5.heap.size ≤ p) (m : p < wx.heap.size) :
    (((w2.setCell ⟨p, 0, none⟩ c).setCell ⟨p, 1, none⟩ d).alloc (.cells #[a, b] 40)).cell? ⟨w2.heap.size, 0, none⟩ = some a ∧ (((w2.setCell ⟨p, 0, none⟩ c).setCell ⟨p, 1, none⟩ d).alloc (.cells #[a, b] 40)).cell? ⟨w2.heap.size, 1, none⟩ = some b ∧
    (((w2.setCell ⟨p, 0, none⟩ c).setCell ⟨p, 1, none⟩ d).alloc (.cells #[a, b] 40)).cell? ⟨p, 0, none⟩ = some c ∧ (((w2.setCell ⟨p, 0, none⟩ c).setCell ⟨p, 1, none⟩ d).alloc (.cells #[a, b] 40)).cell? ⟨p, 1, none⟩ = some d ∧
    W5.heap.size ≤ w2.heap.size ∧ W5.heap.size ≤ p ∧ w2.heap.size ≠ p ∧ (((w2.setCell ⟨p, 0, none⟩ c).setCell ⟨p, 1, none⟩ d).alloc (.cells #[a, b] 40)).ownsRow base 40 2 v2 n (Pl rg) ∧ Kp W5 (((w2.setCell ⟨p, 0, none⟩ c).setCell ⟨p, 1, none⟩ d).alloc (.cells #[a, b] 40)) (fun k => v.ownBlock = some k) := by
  obtain ⟨h1, h2, h3, h4, h5, h6, h7, h8, h9⟩ := fin_B (a := c) (b := d) (c := a) (d := b) HR HL e0 e1 l m
  exact ⟨h3, h4, h1, h2, h6, h5, h7.symm, h8, h9⟩
theorem fin_D {W5 w2 wx : World} {v v2 : Value} {base n p q : Nat} {rg : List (Int × Int)} {a b c d z0 z1 y0 y1 : Value} (HR : w2.ownsRow base 40 2 v2 n (Pl rg) ∧ Kp W5 w2 (fun k => v.ownBlock = some k) ∧ Fresh wx v v2) (HL : ∀ k, v.ownBlock = some k → k < W5.heap.size)
    (e0 : w2.cell? ⟨p, 0, none⟩ = some z0) (e1 : w2.cell? ⟨p, 1, none⟩ = some z1) (g0 : w2.cell? ⟨q, 0, none⟩ = some y0) (g1 : w2.cell? ⟨q, 1, none⟩ = some y1) (l : W5.heap.size ≤ p) (l2 : W5.heap.size ≤ q) (hpq : p ≠ q) (m : p < wx.heap.size) (m2 : q < wx.heap.size) :
    ((((w2.setCell ⟨p, 0, none⟩ a).setCell ⟨p, 1, none⟩ b).setCell ⟨q, 0, none⟩ c).setCell ⟨q, 1, none⟩ d).cell? ⟨p, 0, none⟩ = some a ∧ ((((w2.setCell ⟨p, 0, none⟩ a).setCell ⟨p, 1, none⟩ b).setCell ⟨q, 0, none⟩ c).setCell ⟨q, 1, none⟩ d).cell? ⟨p, 1, none⟩ = some b ∧
    ((((w2.setCell ⟨p, 0, none⟩ a).setCell ⟨p, 1, none⟩ b).setCell ⟨q, 0, none⟩ c).setCell ⟨q, 1, none⟩ d).cell? ⟨q, 0, none⟩ = some c ∧ ((((w2.setCell ⟨p, 0, none⟩ a).setCell ⟨p, 1, none⟩ b).setCell ⟨q, 0, none⟩ c).setCell ⟨q, 1, none⟩ d).cell? ⟨q, 1, none⟩ = some d ∧
    W5.heap.size ≤ p ∧ W5.heap.size ≤ q ∧ p ≠ q ∧ ((((w2.setCell ⟨p, 0, none⟩ a).setCell ⟨p, 1, none⟩ b).setCell ⟨q, 0, none⟩ c).setCell ⟨q, 1, none⟩ d).ownsRow base 40 2 v2 n (Pl rg) ∧ Kp W5 ((((w2.setCell ⟨p, 0, none⟩ a).setCell ⟨p, 1, none⟩ b).setCell ⟨q, 0, none⟩ c).setCell ⟨q, 1, none⟩ d) (fun k => v.ownBlock = some k) := by
  have t := two_set w2 p z0 z1 a b e0 e1
  have u := two_set ((w2.setCell ⟨p, 0, none⟩ a).setCell ⟨p, 1, none⟩ b) q y0 y1 c d (cell_set (cell_set g0 hpq) hpq) (cell_set (cell_set g1 hpq) hpq)
  have hn : v2.ownBlock ≠ some p := own_new HR.2.2 HL l m
  have hn2 : v2.ownBlock ≠ some q := own_new HR.2.2 HL l2 m2
  exact ⟨cell_set (cell_set t.1 hpq.symm) hpq.symm, cell_set (cell_set t.2 hpq.symm) hpq.symm, u.1, u.2, l, l2, hpq, owns_other (owns_other (owns_other (owns_other HR.1 _ _ hn) _ _ hn) _ _ hn2) _ _ hn2, (((HR.2.1.setCell (Or.inr l) _).setCell (Or.inr l) _).setCell (Or.inr l2) _).setCell (Or.inr l2) _⟩
end Go.Proofs.Qxb6601294a
