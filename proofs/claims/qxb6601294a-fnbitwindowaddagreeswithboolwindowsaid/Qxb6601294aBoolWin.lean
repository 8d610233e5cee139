import Derived.Test.Qxb6601294aGen
namespace Go.Proofs.Qxb6601294a
open Go.RowKit

def Bo (bs : List Bool) : List Value := bs.map Value.bool
theorem Bo_length (bs : List Bool) : (Bo bs).length = bs.length := by simp [Bo]
theorem Bo_at (bs : List Bool) (j : Nat) (h : j < bs.length) : (Bo bs)[j]? = some (.bool (bs.getD j false)) := by simp [Bo, List.getD, h]
theorem Bo_set (bs : List Bool) (j : Nat) (x : Bool) : (Bo bs).set j (.bool x) = Bo (bs.set j x) := by unfold Bo; rw [List.map_set]

theorem bstored_eq {w : World} {base g n c : Nat} {bs : List Bool} (h : w.ownsRow base 4 1 (.slice (some ⟨g, 0, none⟩) n c) n (Bo bs)) (j : Nat) (u : Bool) : (w.setCell ⟨g, j, none⟩ (.bool u)).ownsRow base 4 1 (.slice (some ⟨g, 0, none⟩) n c) n (Bo (bs.set j u)) := by
  have h1 := h.stored j (.bool u)
  rw [Bo_set] at h1
  exact h1.1

set_option maxHeartbeats 1000000 in
/-- window[bool].add on a full ring. -/
theorem wadd_full (B base g c : Nat) (bs : List Bool) (cap nx : Nat) (x : Bool) (w : World) (hc0 : w.cell? ⟨B, 0, none⟩ = some (.int .i64 (cap : Int))) (hc1 : w.cell? ⟨B, 1, none⟩ = some (.slice (some ⟨g, 0, none⟩) bs.length c)) (hc2 : w.cell? ⟨B, 2, none⟩ = some (.int .i64 (nx : Int)))
   (hf : ∀ j, w.frozen? ⟨B, j, none⟩ = false) (hcap : (cap : Int) ≤ 9223372036854775807) (hnc : ¬ bs.length < cap) (hnx : nx < cap) (hgB : g ≠ B) (hown : w.ownsRow base 4 1 (.slice (some ⟨g, 0, none⟩) bs.length c) bs.length (Bo bs)) :
    Calls Try.prog 38 #[.pointer (some ⟨B, 0, none⟩), .bool x] w fun e w' => e = .returned (.tuple #[.bool (bs.getD nx false), .bool true]) ∧ w'.ownsRow base 4 1 (.slice (some ⟨g, 0, none⟩) bs.length c) bs.length (Bo (bs.set nx x)) ∧
      w'.cell? ⟨B, 1, none⟩ = some (.slice (some ⟨g, 0, none⟩) bs.length c) ∧ w'.cell? ⟨B, 2, none⟩ = some (.int .i64 (((nx + 1) % cap : Nat) : Int)) ∧ Kp w w' (fun k => k = B ∨ k = g) := by
  have hd : decide ((bs.length : Int) < (cap : Int)) = false := by simp; omega
  have hl : nx < bs.length := by omega
  have hx : w.cell? ⟨g, nx, none⟩ = some (.bool (bs.getD nx false)) := by rw [hown.cellAt _ (by omega), Bo_at _ _ hl]
  have hfx : w.frozen? ⟨g, nx, none⟩ = false := hown.frozenAt _
  have HOW : Hid (w.ownsRow base 4 1 (.slice (some ⟨g, 0, none⟩) bs.length c) bs.length (Bo bs)) := hown
  clear hown
  generalize bs.getD nx false = z at hx
  go_enter Try.func38, Try.ntmps38
  go_wp2
  go_quiet (fail)
  go_wp2
  go_quiet (fail)
  go_wp2
  go_region
  all_goals go_wp2
  go_region
  all_goals go_wp2
  go_ret2
  have emod : ((nx : Int) + 1) % (cap : Int) = (((nx + 1) % cap : Nat) : Int) := by simp
  refine ⟨rfl, ?_, ?_, ?_, ?_⟩
  · refine owns_drew (owns_other (bstored_eq (owns_drewN HOW.out _) _ _) ⟨B, 2, none⟩ _ (by simpa [Value.ownBlock] using hgB))
  · simp [go_sem, hc1]
  · simp [go_sem, hc2]
  · repeat (first | exact Kp.refl _ _ | refine Kp.drew ?_ | refine Kp.drewN ?_ _ | refine Kp.setCell ?_ (Or.inl (by simp)) _)

set_option maxHeartbeats 1000000 in
/-- window[bool].add on a ring with room. -/
theorem wadd_room (B base : Nat) (a : Option Addr) (c : Nat) (bs : List Bool) (cap nx : Nat) (x : Bool) (w : World) (hc0 : w.cell? ⟨B, 0, none⟩ = some (.int .i64 (cap : Int))) (hc1 : w.cell? ⟨B, 1, none⟩ = some (.slice a bs.length c)) (hc2 : w.cell? ⟨B, 2, none⟩ = some (.int .i64 (nx : Int)))
   (hf : ∀ j, w.frozen? ⟨B, j, none⟩ = false) (hnc : bs.length < cap) (hgB : (Value.slice a bs.length c).ownBlock ≠ some B) (hL : bs.length ≤ 1073741824) (hb : base ≤ w.heap.size) (hown : w.ownsRow base 4 1 (.slice a bs.length c) bs.length (Bo bs)) :
    Calls Try.prog 38 #[.pointer (some ⟨B, 0, none⟩), .bool x] w fun e w' => e = .returned (.tuple #[.bool false, .bool false]) ∧ ∃ v1, w'.ownsRow base 4 1 v1 (bs.length + 1) (Bo (bs ++ [x])) ∧
      w'.cell? ⟨B, 1, none⟩ = some v1 ∧ w'.cell? ⟨B, 2, none⟩ = some (.int .i64 (nx : Int)) ∧ Kp w w' (fun k => k = B ∨ (Value.slice a bs.length c).ownBlock = some k) ∧ (v1.ownBlock = (Value.slice a bs.length c).ownBlock ∨ ∃ k, v1.ownBlock = some k ∧ w.heap.size ≤ k) := by
  obtain ⟨i0, hi, hz0, hz1, hz2⟩ := info_parts info4
  have hBz : B < w.heap.size := World.block_lt_of_cell? _ _ hc0
  go_enter Try.func38, Try.ntmps38
  go_wp2
  go_quiet (fail)
  go_wp2_with (at_builtin; refine wpList_append_src _ rfl (.tmp 20) (.tmp 22) 26 26 rfl base 4 i0 (.bool false) 1 1 Try.underlying26 hi hz0 hz1 hz2 rfl _ bs.length (Bo bs) rfl ?q1 _ 1 [.bool x] rfl (Src.ofSlice _ Try.underlying26 _ 1 1 _ rfl ?q2 ?q22) ?q3 ?q4 ?q5 ?_)
  case q1 => exact (owns_drewN hown _).alloc _
  case q2 => exact new_one _ _ _ _ rfl
  case q22 => intro u hu; simp at hu; subst hu; rfl
  case q3 => unfold maxLen; omega
  case q4 => omega
  case q5 => simp; omega
  intro v1 w1 hown1 hg1 hlies1
  obtain ⟨g, c1, hv1⟩ := owns_some hown1 (by omega)
  subst hv1
  have K1 : Kp w w1 (fun k => k = B ∨ (Value.slice a bs.length c).ownBlock = some k) := (((Kp.refl w _).drewN nq).grown (World.grownBy_alloc (w.drewN nq) _ none) (fun k h => by cases h)).grown hg1 (fun k h => .inl (.inr h))
  have hbk : w1.heap[B]? = w.heap[B]? := (hg1.block B (by simp; omega) (fun e => hgB e.symm)).trans (Below.heap_alloc (w.drewN nq) _ B hBz)
  have e0 : w1.cell? ⟨B, 0, none⟩ = some (.int .i64 (cap : Int)) := (World.cell?_of_block hbk).trans hc0
  have e1 : w1.cell? ⟨B, 1, none⟩ = some (.slice a bs.length c) := (World.cell?_of_block hbk).trans hc1
  have e2 : w1.cell? ⟨B, 2, none⟩ = some (.int .i64 (nx : Int)) := (World.cell?_of_block hbk).trans hc2
  have ef : ∀ j, w1.frozen? ⟨B, j, none⟩ = false := fun j => (World.frozen?_of_block hbk).trans (hf j)
  have hgB1 : g ≠ B := by
    rcases hlies1 with h | h
    · intro e; subst e; exact hgB h.symm
    · intro e; subst e; simp [Value.ownBlock] at h; omega
  have hli : (Value.slice (some ⟨g, 0, none⟩) (bs.length + 1) c1).ownBlock = (Value.slice a bs.length c).ownBlock ∨ ∃ k, (Value.slice (some ⟨g, 0, none⟩) (bs.length + 1) c1).ownBlock = some k ∧ w.heap.size ≤ k := by
    rcases hlies1 with h | h
    · exact .inl h
    · exact .inr ⟨_, h, by simp⟩
  have HOW : Hid (w1.ownsRow base 4 1 (.slice (some ⟨g, 0, none⟩) (bs.length + 1) c1) (bs.length + 1) (Bo (bs ++ [x]))) := by
    have : Bo (bs ++ [x]) = Bo bs ++ [.bool x] := by simp [Bo]
    rw [this]; exact hown1
  have HKL : Hid (_ ∧ _) := ⟨K1, hli⟩
  clear hown1 hg1 hlies1 hbk K1 hli hown hc0 hc1 hc2 hf
  go_wp2
  go_ret2
  refine ⟨rfl, _, ?_, ?_, ?_, ?_, HKL.out.2⟩
  · exact owns_other HOW.out ⟨B, 1, none⟩ _ (by simpa [Value.ownBlock] using hgB1)
  · simp [go_sem, e1]
  · simp [go_sem, e2]
  · exact Kp.setCell HKL.out.1 (Or.inl (Or.inl rfl)) _

/-- What one add does to a bool window. -/
def wOld (bs : List Bool) (cap nx : Nat) : Bool := if bs.length < cap then false else bs.getD nx false
def wRing (bs : List Bool) (cap nx : Nat) (x : Bool) : List Bool := if bs.length < cap then bs ++ [x] else bs.set nx x
def wNx (bs : List Bool) (cap nx : Nat) : Nat := if bs.length < cap then nx else (nx + 1) % cap

def WAfter (B base : Nat) (vr : Value) (bs : List Bool) (cap nx : Nat) (x : Bool) (w w' : World) : Prop :=
  ∃ v1, w'.ownsRow base 4 1 v1 (wRing bs cap nx x).length (Bo (wRing bs cap nx x)) ∧ w'.cell? ⟨B, 1, none⟩ = some v1 ∧ w'.cell? ⟨B, 2, none⟩ = some (.int .i64 (wNx bs cap nx : Int)) ∧
    Kp w w' (fun k => k = B ∨ vr.ownBlock = some k) ∧ (v1.ownBlock = vr.ownBlock ∨ ∃ k, v1.ownBlock = some k ∧ w.heap.size ≤ k)

theorem wadd_any (B base : Nat) (a : Option Addr) (c : Nat) (bs : List Bool) (cap nx : Nat) (x : Bool) (w : World) (hc0 : w.cell? ⟨B, 0, none⟩ = some (.int .i64 (cap : Int))) (hc1 : w.cell? ⟨B, 1, none⟩ = some (.slice a bs.length c)) (hc2 : w.cell? ⟨B, 2, none⟩ = some (.int .i64 (nx : Int)))
   (hf : ∀ j, w.frozen? ⟨B, j, none⟩ = false) (hcap : (cap : Int) ≤ 9223372036854775807) (hnx : nx < cap) (hgB : (Value.slice a bs.length c).ownBlock ≠ some B) (hL : bs.length ≤ 1073741824) (hb : base ≤ w.heap.size) (hown : w.ownsRow base 4 1 (.slice a bs.length c) bs.length (Bo bs)) :
    Calls Try.prog 38 #[.pointer (some ⟨B, 0, none⟩), .bool x] w fun e w' => e = .returned (.tuple #[.bool (wOld bs cap nx), .bool (!decide (bs.length < cap))]) ∧ WAfter B base (.slice a bs.length c) bs cap nx x w w' := by
  by_cases h : bs.length < cap
  · refine (wadd_room B base a c bs cap nx x w hc0 hc1 hc2 hf h hgB hL hb hown).mono ?_
    rintro e w' ⟨rfl, v1, r1, r2, r3, r4, r5⟩
    refine ⟨by simp [wOld, h], v1, ?_, r2, by rw [wNx, if_pos h]; exact r3, r4, r5⟩
    have el : (wRing bs cap nx x).length = bs.length + 1 := by simp [wRing, h]
    rw [el, wRing, if_pos h]
    exact r1
  · obtain ⟨g, c', hv⟩ := owns_some hown (by omega)
    simp only [Value.slice.injEq, true_and] at hv
    obtain ⟨rfl, rfl⟩ := hv
    refine (wadd_full B base g c bs cap nx x w hc0 hc1 hc2 hf hcap h hnx (by simpa [Value.ownBlock] using hgB) hown).mono ?_
    rintro e w' ⟨rfl, r1, r2, r3, r4⟩
    refine ⟨by simp [wOld, h], _, ?_, r2, by rw [wNx, if_neg h]; exact r3, r4.weak (fun k hk => hk.elim .inl fun e => .inr (by simp [Value.ownBlock, e])), .inl rfl⟩
    have el : (wRing bs cap nx x).length = bs.length := by simp [wRing, h]
    rw [el, wRing, if_neg h]
    exact r1

set_option maxHeartbeats 1000000 in
/-- ZZWindowBoolAdd. -/
theorem zzwin_any (base : Nat) (vr : Value) (bs : List Bool) (cap nx : Nat) (x : Bool) (w : World) (hcap : (cap : Int) ≤ 9223372036854775807) (hnx : nx < cap) (hL : bs.length ≤ 1073741824) (hb : base ≤ w.heap.size) (hown : w.ownsRow base 4 1 vr bs.length (Bo bs)) :
    Calls Try.prog 16 #[.int .i64 (cap : Int), vr, .int .i64 (nx : Int), .bool x] w fun e w' => ∃ v', e = .returned (.tuple #[.bool (wOld bs cap nx), .bool (!decide (bs.length < cap)), v', .int .i64 (wNx bs cap nx : Int)]) ∧
      w'.ownsRow base 4 1 v' (wRing bs cap nx x).length (Bo (wRing bs cap nx x)) ∧ Ext w vr w' v' := by
  obtain ⟨a, c, rfl⟩ : ∃ a c, vr = .slice a bs.length c := by
    rcases hown.2 with ⟨h, h0⟩ | ⟨g, cap, cur, h, _⟩
    · exact ⟨none, 0, by rw [h, h0]⟩
    · exact ⟨_, _, h⟩
  have HO : Hid (w.ownsRow base 4 1 (.slice a bs.length c) bs.length (Bo bs)) := hown
  have hlt : Hid (∀ k, (Value.slice a bs.length c).ownBlock = some k → base ≤ k ∧ k < w.heap.size) := hown.lt
  have HF : ∃ fl, fl = !decide (bs.length < cap) := ⟨_, rfl⟩
  obtain ⟨fl, hfl⟩ := HF
  rw [← hfl]
  have HFL : Hid (fl = !decide (bs.length < cap)) := hfl
  clear hown hfl
  go_enter Try.func16, Try.ntmps16
  go_wp2_with fail
  refine (wadd_any w.heap.size base a c bs cap nx x _ (by simp) (by simp) (by simp) (fun j => frozen_of_row _ _ j _ 66 (heap_alloc_new w _)) hcap hnx (fun h => Nat.lt_irrefl _ (hlt.out _ h).2) hL (by simp; omega) (HO.out.alloc _)).mono ?_
  rintro e w1 ⟨rfl, v1, r1, r2, r3, r5, r6⟩
  rw [← HFL.out]
  have hz : w.heap.size < w1.heap.size := by have := r5.size; simp at this; omega
  have R1 : Hid (_ ∧ _ ∧ _) := ⟨r1, r5, r6⟩
  clear r1 r5 r6
  go_wp2
  go_quiet (fail)
  go_wp2
  refine bodyPost_ret (v := .tuple #[.bool (wOld bs cap nx), .bool fl, v1, .int .i64 (wNx bs cap nx : Int)]) (by simp [results, Try.results16, go_sem]) rfl ⟨v1, rfl, R1.out.1, ?_⟩
  obtain ⟨r1, r5, r6⟩ := R1.out
  refine ⟨⟨r5.os, r5.tape, r5.output, ?_, ?_⟩, ?_⟩
  · have := r5.size
    simp at this ⊢
    omega
  · intro k hk hne
    have h1 := r5.block k (by simp; omega) (by
      rintro (h | h)
      · omega
      · exact hne h.symm)
    rw [Below.heap_alloc _ _ _ hk] at h1
    exact h1
  · rcases r6 with h | ⟨k, h1, h2⟩
    · exact .inl h
    · exact .inr ⟨k, h1, by simp at h2; omega⟩
end Go.Proofs.Qxb6601294a
