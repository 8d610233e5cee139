import Derived.Test.Qxb6601294aGen
import Derived.Deep.RegionHeld3
namespace Go.Proofs.Qxb6601294a
open Go.RowKit

/-- The signed 128-bit order on two words, and int128's cmp. -/
def ltP (x y : Int × Int) : Prop := x.1 < y.1 ∨ (x.1 = y.1 ∧ x.2 < y.2)
def ltB (x y : Int × Int) : Bool := decide (x.1 < y.1) || (decide (x.1 = y.1) && decide (x.2 < y.2))
theorem ltB_iff (x y : Int × Int) : ltB x y = true ↔ ltP x y := by simp [ltB, ltP]
def cmpI (x y : Int × Int) : Int := if x.1 = y.1 then (if x.2 = y.2 then 0 else if x.2 < y.2 then -1 else 1) else if x.1 < y.1 then -1 else 1
theorem cmpI_pos (x y : Int × Int) : decide (0 < cmpI x y) = ltB y x := by
  unfold cmpI ltB
  rw [Bool.eq_iff_iff]
  simp
  split
  · split
    · omega
    · split <;> omega
  · split <;> omega

set_option maxHeartbeats 400000 in
theorem cmp_any (a b c d : Int) (w : World) : Calls Try.prog 44 #[.agg #[.int .i64 a, .int .u64 b], .agg #[.int .i64 c, .int .u64 d]] w fun e w' => e = .returned (.int .i64 (cmpI (a, b) (c, d))) ∧ w' = (w.alloc (.cells #[.int .i64 a, .int .u64 b] 40)).alloc (.cells #[.int .i64 c, .int .u64 d] 40) := by
  unfold cmpI
  by_cases h1 : a = c
  · subst h1
    rw [if_pos rfl]
    by_cases h2 : b = d
    · subst h2
      rw [if_pos rfl]
      go_enter Try.func44, Try.ntmps44
      go_wp2
      go_ret
      exact ⟨rfl, rfl⟩
    · have e2 : (b == d) = false := by simpa using h2
      rw [if_neg h2]
      by_cases h3 : b < d
      · rw [if_pos h3]
        go_enter Try.func44, Try.ntmps44
        go_wp2
        go_ret
        exact ⟨rfl, rfl⟩
      · rw [if_neg h3]
        go_enter Try.func44, Try.ntmps44
        go_wp2
        go_ret
        exact ⟨rfl, rfl⟩
  · have e1 : (a == c) = false := by simpa using h1
    rw [if_neg h1]
    by_cases h3 : a < c
    · rw [if_pos h3]
      go_enter Try.func44, Try.ntmps44
      go_wp2
      go_ret
      exact ⟨rfl, rfl⟩
    · rw [if_neg h3]
      go_enter Try.func44, Try.ntmps44
      go_wp2
      go_ret
      exact ⟨rfl, rfl⟩

set_option maxHeartbeats 400000 in
theorem less_any (a b c d : Int) (w : World) : Calls Try.prog 42 #[.agg #[.int .i64 a, .int .u64 b], .agg #[.int .i64 c, .int .u64 d]] w fun e w' => e = .returned (.bool (ltB (a, b) (c, d))) ∧ w' = (w.alloc (.cells #[.int .i64 a, .int .u64 b] 43)).alloc (.cells #[.int .i64 c, .int .u64 d] 43) := by
  by_cases h1 : a = c
  · subst h1
    have e : ltB (a, b) (a, d) = decide (b < d) := by simp [ltB]
    rw [e]
    go_enter Try.func42, Try.ntmps42
    go_wp2
    go_ret
    exact ⟨rfl, rfl⟩
  · have e1 : (a == c) = false := by simpa using h1
    have e : ltB (a, b) (c, d) = decide (a < c) := by simp [ltB, h1]
    rw [e]
    go_enter Try.func42, Try.ntmps42
    go_wp2
    go_ret
    exact ⟨rfl, rfl⟩

set_option maxHeartbeats 400000 in
theorem zzi_any (a b : Int) (w : World) : Calls Try.prog 23 #[.int .i64 a, .int .u64 b] w fun e w' => e = .returned (.agg #[.int .i64 a, .int .u64 b]) ∧ w' = w.alloc (.cells #[.int .i64 a, .int .u64 b] 40) := by
  go_enter Try.func23, Try.ntmps23
  go_wp2
  exact bodyPost_ret (v := .agg #[.int .i64 a, .int .u64 b]) (by simp [results, Try.results23, go_sem]) rfl ⟨rfl, rfl⟩

set_option maxHeartbeats 400000 in
theorem hi_any (a b : Int) (w : World) : Calls Try.prog 40 #[.agg #[.int .i64 a, .int .u64 b]] w fun e w' => e = .returned (.int .i64 a) ∧ w' = w.alloc (.cells #[.int .i64 a, .int .u64 b] 40) := by
  go_enter Try.func40, Try.ntmps40
  go_wp2
  go_ret
  exact ⟨rfl, rfl⟩
set_option maxHeartbeats 400000 in
theorem lo_any (a b : Int) (w : World) : Calls Try.prog 41 #[.agg #[.int .i64 a, .int .u64 b]] w fun e w' => e = .returned (.int .u64 b) ∧ w' = w.alloc (.cells #[.int .i64 a, .int .u64 b] 40) := by
  go_enter Try.func41, Try.ntmps41
  go_wp2
  go_ret
  exact ⟨rfl, rfl⟩

theorem grown_alloc {w w1 : World} (h : w.grownBy w1 none) (o : Obj) : w.grownBy (w1.alloc o) none := grownBy_trans h (World.grownBy_alloc _ _ none) (.inl rfl)
theorem grown_drew {w w1 : World} (h : w.grownBy w1 none) : w.grownBy w1.drew none := grownBy_trans h (grownBy_drew _ none) (.inl rfl)

set_option maxHeartbeats 1000000 in
/-- sameI at two equal numbers. -/
theorem same_any (a b : Int) (w : World) : Calls Try.prog 25 #[.agg #[.int .i64 a, .int .u64 b], .agg #[.int .i64 a, .int .u64 b]] w fun e w' => e = .returned (.bool true) ∧ w.grownBy w' none := by
  go_enter Try.func25, Try.ntmps25
  go_wp2_with fail
  go_region_held3 (fun w' => w'.cell? ⟨w.heap.size, 0, none⟩ = some (.int .i64 a) ∧ w'.cell? ⟨w.heap.size, 1, none⟩ = some (.int .u64 b) ∧ w'.cell? ⟨w.heap.size + 1, 0, none⟩ = some (.int .i64 a) ∧ w'.cell? ⟨w.heap.size + 1, 1, none⟩ = some (.int .u64 b) ∧ w.heap.size + 2 ≤ w'.heap.size) (go_keep)
    (first | (go_at_call 40; refine (hi_any _ _ _).mono ?_; rintro e w' ⟨rfl, rfl⟩) | (go_at_call 41; refine (lo_any _ _ _).mono ?_; rintro e w' ⟨rfl, rfl⟩))
  all_goals go_wp2
  all_goals
    go_ret
    exact ⟨rfl, by repeat (first | exact World.grownBy.refl _ _ | refine grown_alloc ?_ _ | refine grown_drew ?_)⟩

theorem info43 : (Try.prog.info? 43).map (fun i => (i.zero, i.size, i.bytes)) = some (some (.agg #[.int .i64 0, .int .u64 0]), 2, 16) := by kernel_rfl
theorem info40 : (Try.prog.info? 40).map (fun i => (i.zero, i.size, i.bytes)) = some (some (.agg #[.int .i64 0, .int .u64 0]), 2, 16) := by kernel_rfl

/-- A slice of pairs that is read: element i's two cells. -/
def Rp (w : World) (v : Value) (ps : List (Int × Int)) : Prop :=
  ∃ a cap, v = .slice a ps.length cap ∧ ps.length ≤ cap ∧ cap ≤ maxLen ∧ (a = none → cap = 0) ∧
    (ps.length = 0 ∨ ∃ b o, a = some ⟨b, o, none⟩ ∧ ∀ i, i < ps.length → w.cell? ⟨b, o + i * 2, none⟩ = some (.int .i64 (ps.getD i (0, 0)).1) ∧ w.cell? ⟨b, o + i * 2 + 1, none⟩ = some (.int .u64 (ps.getD i (0, 0)).2))
theorem rp_grown {w w' : World} {v : Value} {ps : List (Int × Int)} (h : Rp w v ps) (hg : w.grownBy w' none) : Rp w' v ps := by
  obtain ⟨a, cap, rfl, h1, hm, hn, hx⟩ := h
  exact ⟨a, cap, rfl, h1, hm, hn, hx.elim .inl fun ⟨b, o, h1, h2⟩ => .inr ⟨b, o, h1, fun i hi => ⟨grownBy_cell hg (h2 i hi).1, grownBy_cell hg (h2 i hi).2⟩⟩⟩

/-- The greatest of a span, from m on. -/
def maxGo (ps : List (Int × Int)) : Nat → Int × Int → Nat → Int × Int
  | _, m, 0 => m
  | i, m, k + 1 => maxGo ps (i + 1) (if ltB m (ps.getD i (0, 0)) then ps.getD i (0, 0) else m) k
def maxOf (ps : List (Int × Int)) (f t : Nat) : Int × Int := maxGo ps (f + 1) (ps.getD f (0, 0)) (t - (f + 1))

theorem cell_two {w : World} {a : Addr} {v : Value} (h : w.cell? a = some v) (o1 o2 : Obj) : ((w.alloc o1).alloc o2).cell? a = some v :=
  grownBy_cell (grown_alloc (World.grownBy_alloc w o1 none) o2) h
theorem frozen_two {w : World} {a : Addr} {o1 o2 : Obj} (h : a.block < w.heap.size) : ((w.alloc o1).alloc o2).frozen? a = w.frozen? a := by
  apply World.frozen?_of_block
  rw [Below.heap_alloc _ _ _ (by simp; omega), Below.heap_alloc _ _ _ h]

theorem box_set {w : World} {B : Nat} {t : TypeId} {x y : Value} (h : w.heap[B]? = some (.cells #[x, y] t (0, 0))) (u v : Value) : ((w.setCell ⟨B, 0, none⟩ u).setCell ⟨B, 1, none⟩ v).heap[B]? = some (.cells #[u, v] t (0, 0)) :=
  heap_setCell_same _ B 1 _ t v (heap_setCell_same w B 0 _ t u h)
theorem box_far {w : World} {B k : Nat} (h : k ≠ B) (u v : Value) : ((w.setCell ⟨B, 0, none⟩ u).setCell ⟨B, 1, none⟩ v).heap[k]? = w.heap[k]? := by
  rw [Below.heap_setCell _ _ _ _ h, Below.heap_setCell _ _ _ _ h]
theorem grown_set {w w1 : World} (h : w.grownBy w1 none) {a : Addr} (ha : w.heap.size ≤ a.block) (u : Value) : w.grownBy (w1.setCell a u) none :=
  grownBy_trans h (grownBy_setCell w1 a u) (.inr fun k hk => by cases hk; exact ha)

set_option maxHeartbeats 1000000 in
theorem span_walk (b o c : Nat) (ps : List (Int × Int)) (f t : Nat) (w : World) (hl : ps.length ≤ 1048576) (hft : f < t) (ht : t ≤ ps.length)
    (hx : ∀ i, i < ps.length → w.cell? ⟨b, o + i * 2, none⟩ = some (.int .i64 (ps.getD i (0, 0)).1) ∧ w.cell? ⟨b, o + i * 2 + 1, none⟩ = some (.int .u64 (ps.getD i (0, 0)).2)) :
    Calls Try.prog 26 #[.slice (some ⟨b, o, none⟩) ps.length c, .int .i64 (f : Int), .int .i64 (t : Int)] w fun e w' => e = .returned (.agg #[.int .i64 (maxOf ps f t).1, .int .u64 (maxOf ps f t).2]) ∧ w.grownBy w' none := by
  obtain ⟨g1, g2⟩ := hx f (by omega)
  have hbz : b < w.heap.size := World.block_lt_of_cell? _ _ g1
  obtain ⟨m, hm⟩ : ∃ m, maxOf ps f t = m := ⟨_, rfl⟩
  rw [hm]
  have HM : Hid (maxGo ps (f + 1) (ps.getD f (0, 0)) (t - (f + 1)) = m) := hm
  clear hm
  obtain ⟨p, hp⟩ : ∃ p, ps.getD f (0, 0) = p := ⟨_, rfl⟩
  rw [hp] at g1 g2 HM
  clear hp
  obtain ⟨p1, p2⟩ := p
  have HX : Hid (∀ i, i < ps.length → w.cell? ⟨b, o + i * 2, none⟩ = some (.int .i64 (ps.getD i (0, 0)).1) ∧ w.cell? ⟨b, o + i * 2 + 1, none⟩ = some (.int .u64 (ps.getD i (0, 0)).2)) := hx
  clear hx
  go_enter Try.func26, Try.ntmps26
  go_wp2
  go_loopw [8] (fun si wr => ∃ (k : Nat) (m1 m2 : Int), f + 1 ≤ k ∧ k ≤ t ∧ si = .int .i64 k ∧ wr.heap[w.heap.size]? = some (.cells #[.int .i64 0, .int .u64 0] 43 (0, 0)) ∧ wr.heap[w.heap.size + 1]? = some (.cells #[.int .i64 m1, .int .u64 m2] 43 (0, 0)) ∧ w.grownBy wr none ∧ Hid (maxGo ps k (m1, m2) (t - k) = m)) (fun si _ => t - (intOf si).toNat)
  case atStart =>
    refine ⟨f + 1, p1, p2, Nat.le_refl _, hft, by go_num, ?_, ?_, grown_alloc (World.grownBy_alloc w _ none) _, HM⟩
    · rw [Below.heap_alloc _ _ _ (by simp)]
      exact heap_alloc_new w _
    · have := heap_alloc_new (w.alloc (Obj.cells #[Value.int IntKind.i64 0, Value.int IntKind.u64 0] 43)) (Obj.cells #[Value.int IntKind.i64 p1, Value.int IntKind.u64 p2] 43)
      simpa using this
  case round =>
    obtain ⟨k, m1, m2, hk1, hk2, rfl, hB0, hB1, hg, hmx⟩ := hrel
    have z0 : wr.cell? ⟨w.heap.size, 0, none⟩ = some (.int .i64 0) := cell_of_row wr _ _ _ _ _ hB0
    have z1 : wr.cell? ⟨w.heap.size, 1, none⟩ = some (.int .u64 0) := cell_of_row wr _ _ _ _ _ hB0
    have y0 : wr.cell? ⟨w.heap.size + 1, 0, none⟩ = some (.int .i64 m1) := cell_of_row wr _ _ _ _ _ hB1
    have y1 : wr.cell? ⟨w.heap.size + 1, 1, none⟩ = some (.int .u64 m2) := cell_of_row wr _ _ _ _ _ hB1
    have zf : ∀ j, wr.frozen? ⟨w.heap.size, j, none⟩ = false := fun j => frozen_of_row wr _ _ _ _ hB0
    have yf : ∀ j, wr.frozen? ⟨w.heap.size + 1, j, none⟩ = false := fun j => frozen_of_row wr _ _ _ _ hB1
    have hsz : w.heap.size + 1 < wr.heap.size := (Array.getElem?_eq_some_iff.1 hB1).1
    have HB : Hid (_ ∧ _) := ⟨hB0, hB1⟩
    clear hB0 hB1
    by_cases hkt : k < t
    · obtain ⟨q1, q2⟩ := HX.out k (by omega)
      have x1 := grownBy_cell hg q1
      have x2 := grownBy_cell hg q2
      have HN : Hid (maxGo ps (k + 1) (if ltB (m1, m2) (ps.getD k (0, 0)) then ps.getD k (0, 0) else (m1, m2)) (t - (k + 1)) = m) := by
        have := hmx.out
        have e : t - k = (t - (k + 1)) + 1 := by omega
        rw [e] at this
        exact this
      generalize ps.getD k (0, 0) = xk at x1 x2 HN
      obtain ⟨a1, a2⟩ := xk
      clear q1 q2 hmx
      have hki : (0 : Int) ≤ (k : Int) := by omega
      have hkp : (k : Int) < (ps.length : Int) := by omega
      have A1 : ∀ o1 o2, ((wr.alloc o1).alloc o2).cell? ⟨w.heap.size + 1, 0, none⟩ = some (.int .i64 m1) := fun o1 o2 => cell_two y0 o1 o2
      have A2 : ∀ o1 o2, ((wr.alloc o1).alloc o2).cell? ⟨w.heap.size + 1, 1, none⟩ = some (.int .u64 m2) := fun o1 o2 => cell_two y1 o1 o2
      have A3 : ∀ o1 o2, ((wr.alloc o1).alloc o2).cell? ⟨b, o + k * 2, none⟩ = some (.int .i64 a1) := fun o1 o2 => cell_two x1 o1 o2
      have A4 : ∀ o1 o2, ((wr.alloc o1).alloc o2).cell? ⟨b, o + k * 2 + 1, none⟩ = some (.int .u64 a2) := fun o1 o2 => cell_two x2 o1 o2
      have A5 : ∀ o1 o2 j, ((wr.alloc o1).alloc o2).frozen? ⟨w.heap.size + 1, j, none⟩ = false := fun o1 o2 j => by rw [frozen_two (by simp; omega)]; exact yf j
      go_wp2
      go_region_held3 (fun w' => w'.cell? ⟨w.heap.size + 1, 0, none⟩ = some (.int .i64 m1) ∧ w'.cell? ⟨w.heap.size + 1, 1, none⟩ = some (.int .u64 m2) ∧ w'.cell? ⟨b, o + k * 2, none⟩ = some (.int .i64 a1) ∧ w'.cell? ⟨b, o + k * 2 + 1, none⟩ = some (.int .u64 a2)) (go_keep)
        (first | (go_at_call 42; refine (less_any _ _ _ _ _).mono ?_; rintro e w' ⟨rfl, rfl⟩))
      all_goals go_wp2
      · have hb : ltB (m1, m2) (a1, a2) = true := by assumption
        rw [if_pos hb] at HN
        obtain ⟨hB0, hB1⟩ := HB.out
        go_roundw
        case rel =>
          refine ⟨k + 1, a1, a2, by omega, by omega, by go_num, ?_, ?_, ?_, HN⟩
          · refine (box_far (B := w.heap.size + 1) (by omega) _ _).trans ?_
            rw [Below.heap_alloc _ _ _ (by simp; omega), Below.heap_alloc _ _ _ (by omega)]
            exact hB0
          · refine box_set (x := .int .i64 m1) (y := .int .u64 m2) ?_ _ _
            rw [Below.heap_alloc _ _ _ (by simp; omega), Below.heap_alloc _ _ _ (by omega)]
            exact hB1
          · exact grown_drew (grown_set (grown_set (grown_alloc (grown_alloc hg _) _) (by simp) _) (by simp) _)
        case measure => simp [intOf]; omega
      · have hb : ltB (m1, m2) (a1, a2) = false := by assumption
        rw [if_neg (by simp [hb])] at HN
        obtain ⟨hB0, hB1⟩ := HB.out
        go_roundw
        case rel =>
          refine ⟨k + 1, m1, m2, by omega, by omega, by go_num, ?_, ?_, ?_, HN⟩
          · refine Eq.trans ?_ hB0
            exact (Below.heap_alloc _ _ _ (by simp; omega)).trans (Below.heap_alloc _ _ _ (by omega))
          · refine Eq.trans ?_ hB1
            exact (Below.heap_alloc _ _ _ (by simp; omega)).trans (Below.heap_alloc _ _ _ (by omega))
          · exact grown_drew (grown_alloc (grown_alloc hg _) _)
        case measure => simp [intOf]; omega
    · obtain rfl : k = t := by omega
      have hmm : (m1, m2) = m := by have := hmx.out; rw [Nat.sub_self] at this; exact this
      subst hmm
      go_wp2
      refine bodyPost_ret (v := .agg #[.int .i64 m1, .int .u64 m2]) (by simp [results, Try.results26, go_sem, z0, z1]) rfl ⟨rfl, ?_⟩
      exact grown_set (grown_set hg (Nat.le_refl _) _) (Nat.le_refl _) _
end Go.Proofs.Qxb6601294a
