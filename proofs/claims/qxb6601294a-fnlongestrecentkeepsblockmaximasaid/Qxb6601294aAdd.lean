import Derived.Test.Qxb6601294aBit
namespace Go.Proofs.Qxb6601294a
open Go.RowKit

/-- From (w, v) to (w', v'): new blocks, and writes to v's own row alone; v' lies in v's row or in a new block. -/
structure Ext (w : World) (v : Value) (w' : World) (v' : Value) : Prop where
  grown : w.grownBy w' v.ownBlock
  lies : v'.ownBlock = v.ownBlock ∨ ∃ k, v'.ownBlock = some k ∧ w.heap.size ≤ k

theorem Ext.refl (w : World) (v : Value) : Ext w v w v := ⟨World.grownBy.refl _ _, .inl rfl⟩
theorem Ext.trans {w w1 w2 : World} {v v1 v2 : Value} (h : Ext w v w1 v1) (k : Ext w1 v1 w2 v2) : Ext w v w2 v2 := by
  refine ⟨grownBy_trans h.grown k.grown ?_, ?_⟩
  · rcases h.lies with h1 | ⟨j, h1, h2⟩
    · exact .inl h1
    · exact .inr fun i hi => by rw [h1] at hi; cases hi; exact h2
  · rcases k.lies with k1 | ⟨j, k1, k2⟩
    · rw [k1]; exact h.lies
    · exact .inr ⟨j, k1, Nat.le_trans h.grown.size k2⟩
theorem Ext.keep {w w1 : World} (v : Value) (h : w.grownBy w1 none) : Ext w v w1 v := ⟨grownBy_weak h _, .inl rfl⟩

/-- What one add does, in plain words: the item pushed out, the words, the count, the next place. -/
def addOld (ws : List Nat) (cap n nx : Nat) : Bool := if n < cap then false else bit ws nx
def addWs (ws : List Nat) (cap n nx : Nat) (b : Bool) : List Nat :=
  if n < cap then (if n % 64 = 0 then (if b then setAt (ws ++ [0]) n else ws ++ [0]) else (if b then setAt ws n else ws)) else (if b then setAt (clrAt ws nx) nx else clrAt ws nx)
def addN (cap n : Nat) : Nat := if n < cap then n + 1 else n
def addNx (cap n nx : Nat) : Nat := if n < cap then nx else (nx + 1) % cap
theorem addWs_length (ws : List Nat) (cap n nx : Nat) (b : Bool) (h : ws.length = (n + 63) / 64) : (addWs ws cap n nx b).length = (addN cap n + 63) / 64 := by
  unfold addWs addN
  by_cases h1 : n < cap
  · rw [if_pos h1, if_pos h1]
    by_cases h2 : n % 64 = 0
    · rw [if_pos h2]
      cases b <;> simp [setAt_length] <;> omega
    · rw [if_neg h2]
      cases b <;> simp [setAt_length] <;> omega
  · rw [if_neg h1, if_neg h1]
    cases b <;> simp [setAt_length, clrAt_length] <;> omega
theorem addWs_small {ws : List Nat} (cap n nx : Nat) (b : Bool) (h : Small ws) : Small (addWs ws cap n nx b) := by
  unfold addWs
  split
  · split
    · cases b
      · simpa using small_push h
      · simpa using small_setAt (small_push h) _
    · cases b
      · simpa using h
      · simpa using small_setAt h _
  · cases b
    · simpa using small_clrAt h _
    · simpa using small_setAt (small_clrAt h _) _

/-- What is known of the receiver behind 'add'. -/
def After (B base : Nat) (vw : Value) (ws : List Nat) (cap n nx : Nat) (b : Bool) (w w' : World) : Prop :=
  ∃ v1, w'.ownsRow base 38 1 v1 (addWs ws cap n nx b).length (U (addWs ws cap n nx b)) ∧ w'.cell? ⟨B, 1, none⟩ = some v1 ∧ w'.cell? ⟨B, 2, none⟩ = some (.int .i64 (addN cap n : Int)) ∧ w'.cell? ⟨B, 3, none⟩ = some (.int .i64 (addNx cap n nx : Int)) ∧
    Kp w w' (fun k => k = B ∨ vw.ownBlock = some k) ∧ (v1.ownBlock = vw.ownBlock ∨ ∃ k, v1.ownBlock = some k ∧ w.heap.size ≤ k)

theorem Kp.weak {w w' : World} {S T : Nat → Prop} (h : Kp w w' S) (hs : ∀ k, S k → T k) : Kp w w' T := ⟨h.os, h.tape, h.output, h.size, fun k hk hT => h.block k hk (fun e => hT (hs k e))⟩

theorem add_any (B base : Nat) (vw : Value) (ws : List Nat) (cap n nx : Nat) (b : Bool) (w : World) (hc0 : w.cell? ⟨B, 0, none⟩ = some (.int .i64 (cap : Int))) (hc1 : w.cell? ⟨B, 1, none⟩ = some vw) (hc2 : w.cell? ⟨B, 2, none⟩ = some (.int .i64 (n : Int))) (hc3 : w.cell? ⟨B, 3, none⟩ = some (.int .i64 (nx : Int)))
   (hf : ∀ j, w.frozen? ⟨B, j, none⟩ = false) (hcap : (cap : Int) ≤ 9223372036854775807) (hnc : n ≤ cap) (hnx : nx < cap) (hwl : ws.length = (n + 63) / 64) (hgB : vw.ownBlock ≠ some B) (hL : n ≤ 1073741824) (hb : base ≤ w.heap.size) (hown : w.ownsRow base 38 1 vw ws.length (U ws)) (hsm : Small ws) :
    Calls Try.prog 37 #[.pointer (some ⟨B, 0, none⟩), .bool b] w fun e w' => e = .returned (.bool (addOld ws cap n nx)) ∧ After B base vw ws cap n nx b w w' := by
  have hal := addWs_length ws cap n nx b hwl
  by_cases h1 : n < cap
  · by_cases h2 : n % 64 = 0
    · refine (addA B base vw ws cap n nx b w hc0 hc1 hc2 hc3 hf hcap h1 (by omega) hgB (by omega) hb hown).mono ?_
      rintro e w' ⟨rfl, v1, r1, r2, r3, r4, r5, r6⟩
      refine ⟨by simp [addOld, h1], v1, ?_, r2, by rw [addN, if_pos h1]; exact r3, by rw [addNx, if_pos h1]; exact r4, r5, r6⟩
      have el : (addWs ws cap n nx b).length = ws.length + 1 := by rw [hal, addN, if_pos h1]; omega
      rw [el, addWs, if_pos h1, if_pos h2]
      exact r1
    · obtain ⟨g, c, rfl⟩ := owns_some hown (by omega)
      refine (addB B base g c ws cap n nx b w hc0 hc1 hc2 hc3 hf hcap h1 h2 (by simpa [Value.ownBlock] using hgB) (by omega) hown hsm).mono ?_
      rintro e w' ⟨rfl, r1, r2, r3, r4, r5⟩
      refine ⟨by simp [addOld, h1], _, ?_, r2, by rw [addN, if_pos h1]; exact r3, by rw [addNx, if_pos h1]; exact r4, r5.weak (fun k hk => hk.elim .inl fun e => .inr (by simp [Value.ownBlock, e])), .inl rfl⟩
      have el : (addWs ws cap n nx b).length = ws.length := by rw [hal, addN, if_pos h1]; omega
      rw [el, addWs, if_pos h1, if_neg h2]
      exact r1
  · obtain ⟨g, c, rfl⟩ := owns_some hown (by omega)
    refine (addC B base g c ws cap n nx b w hc0 hc1 hc2 hc3 hf hcap h1 hnx (by simpa [Value.ownBlock] using hgB) (by omega) hown hsm).mono ?_
    rintro e w' ⟨rfl, r1, r2, r3, r4, r5⟩
    refine ⟨by rw [addOld, if_neg h1], _, ?_, r2, by rw [addN, if_neg h1]; exact r3, by rw [addNx, if_neg h1]; exact r4, r5.weak (fun k hk => hk.elim .inl fun e => .inr (by simp [Value.ownBlock, e])), .inl rfl⟩
    have el : (addWs ws cap n nx b).length = ws.length := by rw [hal, addN, if_neg h1]; omega
    rw [el, addWs, if_neg h1]
    exact r1

set_option maxHeartbeats 1000000 in
/-- ZZBitWindowAdd. -/
theorem zzbit_any (base : Nat) (vw : Value) (ws : List Nat) (cap n nx : Nat) (b : Bool) (w : World)
   (hcap : (cap : Int) ≤ 9223372036854775807) (hnc : n ≤ cap) (hnx : nx < cap) (hwl : ws.length = (n + 63) / 64) (hL : n ≤ 1073741824) (hb : base ≤ w.heap.size) (hown : w.ownsRow base 38 1 vw ws.length (U ws)) (hsm : Small ws) :
    Calls Try.prog 15 #[.int .i64 (cap : Int), vw, .int .i64 (n : Int), .int .i64 (nx : Int), .bool b] w fun e w' => ∃ v', e = .returned (.tuple #[.bool (addOld ws cap n nx), v', .int .i64 (addN cap n : Int), .int .i64 (addNx cap n nx : Int)]) ∧
      w'.ownsRow base 38 1 v' (addWs ws cap n nx b).length (U (addWs ws cap n nx b)) ∧ Ext w vw w' v' := by
  obtain ⟨a, c, rfl⟩ : ∃ a c, vw = .slice a ws.length c := by
    rcases hown.2 with ⟨h, h0⟩ | ⟨g, cap, cur, h, _⟩
    · exact ⟨none, 0, by rw [h, h0]⟩
    · exact ⟨_, _, h⟩
  have HO : Hid (w.ownsRow base 38 1 (.slice a ws.length c) ws.length (U ws)) := hown
  have hlt : Hid (∀ k, (Value.slice a ws.length c).ownBlock = some k → base ≤ k ∧ k < w.heap.size) := hown.lt
  have HWL : Hid (ws.length = (n + 63) / 64) := hwl
  clear hown hwl
  go_enter Try.func15, Try.ntmps15
  go_wp2_with fail
  refine (add_any w.heap.size base (.slice a ws.length c) ws cap n nx b _ (by simp) (by simp) (by simp) (by simp) (fun j => frozen_of_row _ _ j _ 63 (heap_alloc_new w _)) hcap hnc hnx HWL.out (fun h => Nat.lt_irrefl _ (hlt.out _ h).2) hL (by simp; omega) (HO.out.alloc _) hsm).mono ?_
  rintro e w1 ⟨rfl, v1, r1, r2, r3, r4, r5, r6⟩
  have hz : w.heap.size < w1.heap.size := by have := r5.size; simp at this; omega
  have R1 : Hid (_ ∧ _ ∧ _) := ⟨r1, r5, r6⟩
  clear r1 r5 r6
  go_wp2
  go_quiet (fail)
  go_wp2
  refine bodyPost_ret (v := .tuple #[.bool (addOld ws cap n nx), v1, .int .i64 (addN cap n : Int), .int .i64 (addNx cap n nx : Int)]) (by simp [results, Try.results15, go_sem]) rfl ⟨v1, rfl, R1.out.1, ?_⟩
  obtain ⟨r1, r5, r6⟩ := R1.out
  refine ⟨⟨r5.os, r5.tape, r5.output, ?_, ?_⟩, ?_⟩
  · have := r5.size
    simp at this ⊢
    omega
  · intro k hk hne
    have h1 := r5.block k (by simp; omega) (by
      rintro (h | h)
      · omega
      · exact hne h.symm)
    rw [Below.heap_alloc _ _ _ hk] at h1
    exact h1
  · rcases r6 with h | ⟨k, h1, h2⟩
    · exact .inl h
    · exact .inr ⟨k, h1, by simp at h2; omega⟩
end Go.Proofs.Qxb6601294a
