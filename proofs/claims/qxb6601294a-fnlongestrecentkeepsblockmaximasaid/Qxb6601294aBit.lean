import Derived.Test.Qxb6601294aRows
import Derived.Test.Qxb6601294aLaws
import Derived.Test.Qxb6601294aBits
import Derived.Deep.QuietTactic
import Derived.BigQuiet
namespace Go.Proofs.Qxb6601294a
open Go.RowKit

theorem info38 : (Try.prog.info? 38).map (fun i => (i.zero, i.size, i.bytes)) = some (some (.int .u64 0), 1, 8) := by kernel_rfl

def U (ws : List Nat) : List Value := ws.map fun (x : Nat) => Value.int .u64 (x : Int)
theorem U_length (ws : List Nat) : (U ws).length = ws.length := by simp [U]
theorem U_at (ws : List Nat) (j : Nat) (h : j < ws.length) : (U ws)[j]? = some (.int .u64 ((ws.getD j 0 : Nat) : Int)) := by
  simp [U, List.getD, h]
theorem U_set (ws : List Nat) (j x : Nat) : (U ws).set j (.int .u64 (x : Int)) = U (ws.set j x) := by unfold U; rw [List.map_set]

/-- Outside the blocks S the old memory is as it was. -/
structure Kp (w w' : World) (S : Nat → Prop) : Prop where
  os : w'.os = w.os
  tape : w'.tape = w.tape
  output : w'.output = w.output
  size : w.heap.size ≤ w'.heap.size
  block : ∀ k, k < w.heap.size → ¬ S k → w'.heap[k]? = w.heap[k]?
theorem Kp.refl (w : World) (S : Nat → Prop) : Kp w w S := ⟨rfl, rfl, rfl, Nat.le_refl _, fun _ _ _ => rfl⟩
theorem Kp.drewN {w w1 : World} {S : Nat → Prop} (h : Kp w w1 S) (n : Nat) : Kp w (w1.drewN n) S := ⟨h.os, h.tape, h.output, h.size, h.block⟩
theorem Kp.drew {w w1 : World} {S : Nat → Prop} (h : Kp w w1 S) : Kp w w1.drew S := ⟨h.os, h.tape, h.output, h.size, h.block⟩
theorem Kp.setCell {w w1 : World} {S : Nat → Prop} (h : Kp w w1 S) {a : Addr} (ha : S a.block ∨ w.heap.size ≤ a.block) (u : Value) : Kp w (w1.setCell a u) S :=
  ⟨h.os, h.tape, h.output, by simpa using h.size, fun k hk hS => by
    rw [Below.heap_setCell _ _ _ _ (fun e => by subst e; rcases ha with ha | ha; exact hS ha; omega)]; exact h.block k hk hS⟩
theorem Kp.grown {w w1 w2 : World} {S : Nat → Prop} {row : Option Nat} (h : Kp w w1 S) (hg : w1.grownBy w2 row) (hr : ∀ k, row = some k → S k ∨ w.heap.size ≤ k) : Kp w w2 S :=
  ⟨hg.os.trans h.os, hg.tape.trans h.tape, hg.output.trans h.output, Nat.le_trans h.size hg.size, fun k hk hS =>
    (hg.block k (Nat.lt_of_lt_of_le hk h.size) (fun e => by rcases hr k e.symm with h1 | h1; exact hS h1; omega)).trans (h.block k hk hS)⟩
theorem grownBy_setCell (w : World) (a : Addr) (u : Value) : w.grownBy (w.setCell a u) (some a.block) :=
  ⟨rfl, rfl, rfl, by simp, fun k _ hne => Below.heap_setCell _ _ _ _ (fun e => hne (by rw [e]))⟩
theorem owns_other {w : World} {base : Nat} {e : TypeId} {size n : Nat} {v : Value} {xs : List Value} (h : w.ownsRow base e size v n xs) (a : Addr) (u : Value) (hne : v.ownBlock ≠ some a.block) : (w.setCell a u).ownsRow base e size v n xs :=
  h.kept (grownBy_setCell w a u) (.inr hne)
theorem owns_drewN {w : World} {base : Nat} {e : TypeId} {size n : Nat} {v : Value} {xs : List Value} (h : w.ownsRow base e size v n xs) (m : Nat) : (w.drewN m).ownsRow base e size v n xs := h
theorem owns_drew {w : World} {base : Nat} {e : TypeId} {size n : Nat} {v : Value} {xs : List Value} (h : w.ownsRow base e size v n xs) : w.drew.ownsRow base e size v n xs := h

theorem new_one (w : World) (x : Value) (e : TypeId) : ∀ (H : Nat), w.heap.size = H → ∀ j u, [x][j]? = some u → (w.alloc (.cells #[x] e)).cell? ((⟨H, 0, none⟩ : Addr).add j) = some u := by
  intro H hH j u hj
  subst hH
  match j, hj with
  | 0, hj => simp at hj; subst hj; simp [Addr.add]
theorem owns_some {w : World} {base : Nat} {e : TypeId} {v : Value} {n : Nat} {xs : List Value} (h : w.ownsRow base e 1 v n xs) (hn : 0 < n) : ∃ g cap, v = .slice (some ⟨g, 0, none⟩) n cap := by
  rcases h.2 with ⟨h, h0⟩ | ⟨g, cap, cur, rfl, _⟩
  · omega
  · exact ⟨g, cap, rfl⟩

theorem stored_eq {w : World} {base g n c : Nat} {ws : List Nat} (h : w.ownsRow base 38 1 (.slice (some ⟨g, 0, none⟩) n c) n (U ws)) (j u : Nat) {ws' : List Nat} (he : ws.set j u = ws') : (w.setCell ⟨g, j, none⟩ (.int .u64 (u : Int))).ownsRow base 38 1 (.slice (some ⟨g, 0, none⟩) n c) n (U ws') := by
  have h1 := h.stored j (.int .u64 (u : Int))
  rw [U_set, he] at h1
  exact h1.1

set_option maxHeartbeats 1000000 in
theorem addC (B base g c : Nat) (ws : List Nat) (cap n nx : Nat) (b : Bool) (w : World) (hc0 : w.cell? ⟨B, 0, none⟩ = some (.int .i64 (cap : Int))) (hc1 : w.cell? ⟨B, 1, none⟩ = some (.slice (some ⟨g, 0, none⟩) ws.length c)) (hc2 : w.cell? ⟨B, 2, none⟩ = some (.int .i64 (n : Int))) (hc3 : w.cell? ⟨B, 3, none⟩ = some (.int .i64 (nx : Int)))
   (hf : ∀ j, w.frozen? ⟨B, j, none⟩ = false) (hcap : (cap : Int) ≤ 9223372036854775807) (hnc : ¬ n < cap) (hnx : nx < cap) (hgB : g ≠ B) (hl : nx / 64 < ws.length) (hown : w.ownsRow base 38 1 (.slice (some ⟨g, 0, none⟩) ws.length c) ws.length (U ws)) (hsm : Small ws) :
    Calls Try.prog 37 #[.pointer (some ⟨B, 0, none⟩), .bool b] w fun e w' => e = .returned (.bool (bit ws nx)) ∧ w'.ownsRow base 38 1 (.slice (some ⟨g, 0, none⟩) ws.length c) ws.length (U (if b then setAt (clrAt ws nx) nx else clrAt ws nx)) ∧
      w'.cell? ⟨B, 1, none⟩ = some (.slice (some ⟨g, 0, none⟩) ws.length c) ∧ w'.cell? ⟨B, 2, none⟩ = some (.int .i64 (n : Int)) ∧ w'.cell? ⟨B, 3, none⟩ = some (.int .i64 (((nx + 1) % cap : Nat) : Int)) ∧ Kp w w' (fun k => k = B ∨ k = g) := by
  have hcn : (cap : Int) ≤ (n : Int) := by omega
  have hd : decide ((n : Int) < (cap : Int)) = false := by simp; omega
  have hx : w.cell? ⟨g, nx / 64, none⟩ = some (.int .u64 ((ws.getD (nx / 64) 0 : Nat) : Int)) := by rw [hown.cellAt _ (by omega), U_at _ _ hl]
  have hfx : w.frozen? ⟨g, nx / 64, none⟩ = false := hown.frozenAt _
  have hgx := small_getD hsm (nx / 64)
  have h64 : nx % 64 < 64 := by omega
  have R1 : ∀ (u : Nat) (v : Value) (q r : Nat), ((((w.drewN q).setCell ⟨B, 3, none⟩ v).drewN r).setCell ⟨g, nx / 64, none⟩ (.int .u64 (u : Int))).ownsRow base 38 1 (.slice (some ⟨g, 0, none⟩) ws.length c) ws.length (U (ws.set (nx / 64) u)) := by
    intro u v q r
    have h1 := (owns_drewN (owns_other (owns_drewN hown q) ⟨B, 3, none⟩ v (by simpa [Value.ownBlock] using hgB)) r).stored (nx / 64) (.int .u64 (u : Int))
    rw [U_set] at h1
    exact h1.1
  have eset : (clrAt ws nx).set (nx / 64) (setB (clrB (ws.getD (nx / 64) 0) (nx % 64)) (nx % 64)) = setAt (clrAt ws nx) nx := by
    unfold setAt
    congr 2
    simp [clrAt, List.getD, hl]
  have HR1 : Hid (∀ (u : Nat) (v : Value) (q r : Nat), ((((w.drewN q).setCell ⟨B, 3, none⟩ v).drewN r).setCell ⟨g, nx / 64, none⟩ (.int .u64 (u : Int))).ownsRow base 38 1 (.slice (some ⟨g, 0, none⟩) ws.length c) ws.length (U (ws.set (nx / 64) u))) := R1
  have HES : Hid (_ = _) := eset
  have Hb : Hid (bit ws nx = (ws.getD (nx / 64) 0).testBit (nx % 64)) := rfl
  have Hc : Hid (clrAt ws nx = ws.set (nx / 64) (clrB (ws.getD (nx / 64) 0) (nx % 64))) := rfl
  clear R1 eset hown
  generalize ws.getD (nx / 64) 0 = x at *
  have HA := and_pow hgx h64
  have HN := andNot_pow hgx h64
  have HO := or_pow (clrB_lt (k := nx % 64) hgx) h64
  have HH : Hid (_ ∧ _ ∧ _) := ⟨HA, HN, HO⟩
  clear HA HN HO
  cases b with
  | true =>
    go_enter Try.func37, Try.ntmps37
    go_wp2
    go_quiet (fail)
    go_wp2
    go_region
    all_goals go_wp2
    go_quiet (fail)
    go_wp2
    go_region
    all_goals go_wp2
    go_region
    all_goals go_wp2
    go_ret
    have emod : ((nx : Int) + 1) % (cap : Int) = (((nx + 1) % cap : Nat) : Int) := by simp
    refine ⟨by rw [Hb.out, ← HH.out.1]; rfl, ?_, ?_, ?_, ?_, ?_⟩
    · rw [HH.out.2.1, HH.out.2.2, emod]
      exact owns_drew (stored_eq (HR1.out (clrB x (nx % 64)) (.int .i64 (((nx + 1) % cap : Nat) : Int)) _ _) _ _ (by rw [← Hc.out]; exact HES.out))
    · simp [go_sem, hc1]
    · simp [go_sem, hc2]
    · simp [go_sem, hc3]
    · repeat (first | exact Kp.refl _ _ | refine Kp.drew ?_ | refine Kp.drewN ?_ _ | refine Kp.setCell ?_ (Or.inl (by simp)) _)
  | false =>
    go_enter Try.func37, Try.ntmps37
    go_wp2
    go_quiet (fail)
    go_wp2
    go_region
    all_goals go_wp2
    go_quiet (fail)
    go_wp2
    go_region
    all_goals go_wp2
    go_ret
    have emod : ((nx : Int) + 1) % (cap : Int) = (((nx + 1) % cap : Nat) : Int) := by simp
    refine ⟨by rw [Hb.out, ← HH.out.1]; rfl, ?_, ?_, ?_, ?_, ?_⟩
    · rw [HH.out.2.1, emod]
      have h1 := HR1.out (clrB x (nx % 64)) (.int .i64 (((nx + 1) % cap : Nat) : Int))
      rw [← Hc.out] at h1
      exact owns_drew (h1 _ _)
    · simp [go_sem, hc1]
    · simp [go_sem, hc2]
    · simp [go_sem, hc3]
    · repeat (first | exact Kp.refl _ _ | refine Kp.drew ?_ | refine Kp.drewN ?_ _ | refine Kp.setCell ?_ (Or.inl (by simp)) _)

set_option maxHeartbeats 1000000 in
theorem addB (B base g c : Nat) (ws : List Nat) (cap n nx : Nat) (b : Bool) (w : World) (hc0 : w.cell? ⟨B, 0, none⟩ = some (.int .i64 (cap : Int))) (hc1 : w.cell? ⟨B, 1, none⟩ = some (.slice (some ⟨g, 0, none⟩) ws.length c)) (hc2 : w.cell? ⟨B, 2, none⟩ = some (.int .i64 (n : Int))) (hc3 : w.cell? ⟨B, 3, none⟩ = some (.int .i64 (nx : Int)))
   (hf : ∀ j, w.frozen? ⟨B, j, none⟩ = false) (hcap : (cap : Int) ≤ 9223372036854775807) (hnc : n < cap) (hn64 : ¬ n % 64 = 0) (hgB : g ≠ B) (hl : n / 64 < ws.length) (hown : w.ownsRow base 38 1 (.slice (some ⟨g, 0, none⟩) ws.length c) ws.length (U ws)) (hsm : Small ws) :
    Calls Try.prog 37 #[.pointer (some ⟨B, 0, none⟩), .bool b] w fun e w' => e = .returned (.bool false) ∧ w'.ownsRow base 38 1 (.slice (some ⟨g, 0, none⟩) ws.length c) ws.length (U (if b then setAt ws n else ws)) ∧
      w'.cell? ⟨B, 1, none⟩ = some (.slice (some ⟨g, 0, none⟩) ws.length c) ∧ w'.cell? ⟨B, 2, none⟩ = some (.int .i64 ((n + 1 : Nat) : Int)) ∧ w'.cell? ⟨B, 3, none⟩ = some (.int .i64 (nx : Int)) ∧ Kp w w' (fun k => k = B ∨ k = g) := by
  have hx : w.cell? ⟨g, n / 64, none⟩ = some (.int .u64 ((ws.getD (n / 64) 0 : Nat) : Int)) := by rw [hown.cellAt _ (by omega), U_at _ _ hl]
  have hfx : w.frozen? ⟨g, n / 64, none⟩ = false := hown.frozenAt _
  have hgx := small_getD hsm (n / 64)
  have h64 : n % 64 < 64 := by omega
  have HOW : Hid (w.ownsRow base 38 1 (.slice (some ⟨g, 0, none⟩) ws.length c) ws.length (U ws)) := hown
  have Hc : Hid (ws.set (n / 64) (setB (ws.getD (n / 64) 0) (n % 64)) = setAt ws n) := rfl
  clear hown
  generalize ws.getD (n / 64) 0 = x at *
  have HO : Hid (_ = _) := or_pow hgx h64
  cases b with
  | true =>
    go_enter Try.func37, Try.ntmps37
    go_wp2
    go_quiet (fail)
    go_wp2
    go_region
    all_goals go_wp2
    go_ret
    refine ⟨rfl, ?_, ?_, ?_, ?_, ?_⟩
    · rw [HO.out]
      exact owns_drew (stored_eq (owns_other (owns_drewN HOW.out _) ⟨B, 2, none⟩ _ (by simpa [Value.ownBlock] using hgB)) _ _ Hc.out)
    · simp [go_sem, hc1]
    · simp [go_sem, hc2]
    · simp [go_sem, hc3]
    · repeat (first | exact Kp.refl _ _ | refine Kp.drew ?_ | refine Kp.drewN ?_ _ | refine Kp.setCell ?_ (Or.inl (by simp)) _)
  | false =>
    go_enter Try.func37, Try.ntmps37
    go_wp2
    go_quiet (fail)
    go_wp2
    go_ret
    refine ⟨rfl, ?_, ?_, ?_, ?_, ?_⟩
    · exact owns_other (owns_drewN HOW.out _) ⟨B, 2, none⟩ _ (by simpa [Value.ownBlock] using hgB)
    · simp [go_sem, hc1]
    · simp [go_sem, hc2]
    · simp [go_sem, hc3]
    · repeat (first | exact Kp.refl _ _ | refine Kp.drew ?_ | refine Kp.drewN ?_ _ | refine Kp.setCell ?_ (Or.inl (by simp)) _)

set_option maxHeartbeats 1000000 in
theorem addA (B base : Nat) (vw : Value) (ws : List Nat) (cap n nx : Nat) (b : Bool) (w : World) (hc0 : w.cell? ⟨B, 0, none⟩ = some (.int .i64 (cap : Int))) (hc1 : w.cell? ⟨B, 1, none⟩ = some vw) (hc2 : w.cell? ⟨B, 2, none⟩ = some (.int .i64 (n : Int))) (hc3 : w.cell? ⟨B, 3, none⟩ = some (.int .i64 (nx : Int)))
   (hf : ∀ j, w.frozen? ⟨B, j, none⟩ = false) (hcap : (cap : Int) ≤ 9223372036854775807) (hnc : n < cap) (hn64 : n = 64 * ws.length) (hgB : vw.ownBlock ≠ some B) (hL : ws.length ≤ 1073741824) (hb : base ≤ w.heap.size) (hown : w.ownsRow base 38 1 vw ws.length (U ws)) :
    Calls Try.prog 37 #[.pointer (some ⟨B, 0, none⟩), .bool b] w fun e w' => e = .returned (.bool false) ∧ ∃ v1, w'.ownsRow base 38 1 v1 (ws.length + 1) (U (if b then setAt (ws ++ [0]) n else ws ++ [0])) ∧
      w'.cell? ⟨B, 1, none⟩ = some v1 ∧ w'.cell? ⟨B, 2, none⟩ = some (.int .i64 ((n + 1 : Nat) : Int)) ∧ w'.cell? ⟨B, 3, none⟩ = some (.int .i64 (nx : Int)) ∧ Kp w w' (fun k => k = B ∨ vw.ownBlock = some k) ∧ (v1.ownBlock = vw.ownBlock ∨ ∃ k, v1.ownBlock = some k ∧ w.heap.size ≤ k) := by
  obtain ⟨i0, hi, hz0, hz1, hz2⟩ := info_parts info38
  have h64 : n % 64 = 0 := by omega
  have h65 : n / 64 = ws.length := by omega
  have HB64 : Hid (n / 64 = ws.length ∧ n % 64 = 0) := ⟨h65, h64⟩
  have h64i : (n : Int) % 64 = 0 := by omega
  have hBz : B < w.heap.size := World.block_lt_of_cell? _ _ hc0
  clear h65 h64 hn64
  cases b with
  | true =>
    go_enter Try.func37, Try.ntmps37
    go_wp2
    go_quiet (fail)
    go_wp2_with (at_builtin; refine wpList_append_src _ rfl (.tmp 26) (.tmp 27) 22 22 rfl base 38 i0 (.int .u64 0) 1 8 Try.underlying22 hi hz0 hz1 hz2 rfl _ ws.length (U ws) rfl ?q1 _ 1 [.int .u64 0] rfl (Src.ofSlice _ Try.underlying22 _ 1 1 _ rfl ?q2 ?q22) ?q3 ?q4 ?q5 ?_)
    case q1 => exact (owns_drewN hown _).alloc _
    case q2 => exact new_one _ _ _ _ rfl
    case q22 => intro u hu; simp at hu; subst hu; rfl
    case q3 => unfold maxLen; omega
    case q4 => omega
    case q5 => simp; omega
    intro v1 w1 hown1 hg1 hlies1
    obtain ⟨g, c1, hv1⟩ := owns_some hown1 (by omega)
    subst hv1
    have K1 : Kp w w1 (fun k => k = B ∨ vw.ownBlock = some k) := (((Kp.refl w _).drewN nq).grown (World.grownBy_alloc (w.drewN nq) _ none) (fun k h => by cases h)).grown hg1 (fun k h => .inl (.inr h))
    have hbk : w1.heap[B]? = w.heap[B]? := (hg1.block B (by simp; omega) (fun e => hgB e.symm)).trans (Below.heap_alloc (w.drewN nq) _ B hBz)
    have e0 : w1.cell? ⟨B, 0, none⟩ = some (.int .i64 (cap : Int)) := (World.cell?_of_block hbk).trans hc0
    have e1 : w1.cell? ⟨B, 1, none⟩ = some vw := (World.cell?_of_block hbk).trans hc1
    have e2 : w1.cell? ⟨B, 2, none⟩ = some (.int .i64 (n : Int)) := (World.cell?_of_block hbk).trans hc2
    have e3 : w1.cell? ⟨B, 3, none⟩ = some (.int .i64 (nx : Int)) := (World.cell?_of_block hbk).trans hc3
    have ef : ∀ j, w1.frozen? ⟨B, j, none⟩ = false := fun j => (World.frozen?_of_block hbk).trans (hf j)
    have hgB1 : g ≠ B := by
      rcases hlies1 with h | h
      · intro e; subst e; exact hgB h.symm
      · intro e; subst e; simp [Value.ownBlock] at h; omega
    have hli : (Value.slice (some ⟨g, 0, none⟩) (ws.length + 1) c1).ownBlock = vw.ownBlock ∨ ∃ k, (Value.slice (some ⟨g, 0, none⟩) (ws.length + 1) c1).ownBlock = some k ∧ w.heap.size ≤ k := by
      rcases hlies1 with h | h
      · exact .inl h
      · exact .inr ⟨_, h, by simp⟩
    have hown1' : w1.ownsRow base 38 1 (.slice (some ⟨g, 0, none⟩) (ws.length + 1) c1) (ws.length + 1) (U (ws ++ [0])) := by simpa [U] using hown1
    have hx : w1.cell? ⟨g, n / 64, none⟩ = some (.int .u64 0) := by
      rw [HB64.out.1, hown1'.cellAt _ (by omega), U_at _ _ (by simp)]
      simp [List.getD]
    have hfx : w1.frozen? ⟨g, n / 64, none⟩ = false := hown1'.frozenAt _
    have HKL : Hid (_ ∧ _) := ⟨K1, hli⟩
    have HOW : Hid (w1.ownsRow base 38 1 (.slice (some ⟨g, 0, none⟩) (ws.length + 1) c1) (ws.length + 1) (U (ws ++ [0]))) := hown1'
    have hlt : n / 64 < ws.length + 1 := by have := HB64.out.1; omega
    have HO : Hid (bits BinOp.or IntKind.u64 0 1 = ((1 : Nat) : Int)) := bits_or_u64_nat 0 1 (by omega) (by omega)
    have HST : Hid ((ws ++ [0]).set (n / 64) 1 = setAt (ws ++ [0]) n) := by
      unfold setAt
      rw [HB64.out.1, HB64.out.2]
      simp [List.getD, setB, Hid]
    clear hown1 hown1' hg1 hlies1 hbk K1 hli hown hc0 hc1 hc2 hc3 hf
    go_wp2
    go_region
    all_goals go_wp2
    go_ret
    refine ⟨rfl, _, ?_, ?_, ?_, ?_, ?_, HKL.out.2⟩
    · rw [HO.out]
      exact owns_drew (stored_eq (owns_other (owns_other HOW.out ⟨B, 1, none⟩ _ (by simpa [Value.ownBlock] using hgB1)) ⟨B, 2, none⟩ _ (by simpa [Value.ownBlock] using hgB1)) _ _ HST.out)
    · simp [go_sem, e1]
    · simp [go_sem, e2]
    · simp [go_sem, e3]
    · refine Kp.drew (Kp.setCell (Kp.setCell (Kp.setCell HKL.out.1 (Or.inl (Or.inl rfl)) _) (Or.inl (Or.inl rfl)) _) ?_ _)
      rcases HKL.out.2 with h | ⟨k, h, h2⟩
      · exact Or.inl (Or.inr h.symm)
      · exact Or.inr (by simp [Value.ownBlock] at h; show w.heap.size ≤ g; omega)
  | false =>
    go_enter Try.func37, Try.ntmps37
    go_wp2
    go_quiet (fail)
    go_wp2_with (at_builtin; refine wpList_append_src _ rfl (.tmp 26) (.tmp 27) 22 22 rfl base 38 i0 (.int .u64 0) 1 8 Try.underlying22 hi hz0 hz1 hz2 rfl _ ws.length (U ws) rfl ?q1 _ 1 [.int .u64 0] rfl (Src.ofSlice _ Try.underlying22 _ 1 1 _ rfl ?q2 ?q22) ?q3 ?q4 ?q5 ?_)
    case q1 => exact (owns_drewN hown _).alloc _
    case q2 => exact new_one _ _ _ _ rfl
    case q22 => intro u hu; simp at hu; subst hu; rfl
    case q3 => unfold maxLen; omega
    case q4 => omega
    case q5 => simp; omega
    intro v1 w1 hown1 hg1 hlies1
    obtain ⟨g, c1, hv1⟩ := owns_some hown1 (by omega)
    subst hv1
    have K1 : Kp w w1 (fun k => k = B ∨ vw.ownBlock = some k) := (((Kp.refl w _).drewN nq).grown (World.grownBy_alloc (w.drewN nq) _ none) (fun k h => by cases h)).grown hg1 (fun k h => .inl (.inr h))
    have hbk : w1.heap[B]? = w.heap[B]? := (hg1.block B (by simp; omega) (fun e => hgB e.symm)).trans (Below.heap_alloc (w.drewN nq) _ B hBz)
    have e0 : w1.cell? ⟨B, 0, none⟩ = some (.int .i64 (cap : Int)) := (World.cell?_of_block hbk).trans hc0
    have e1 : w1.cell? ⟨B, 1, none⟩ = some vw := (World.cell?_of_block hbk).trans hc1
    have e2 : w1.cell? ⟨B, 2, none⟩ = some (.int .i64 (n : Int)) := (World.cell?_of_block hbk).trans hc2
    have e3 : w1.cell? ⟨B, 3, none⟩ = some (.int .i64 (nx : Int)) := (World.cell?_of_block hbk).trans hc3
    have ef : ∀ j, w1.frozen? ⟨B, j, none⟩ = false := fun j => (World.frozen?_of_block hbk).trans (hf j)
    have hgB1 : g ≠ B := by
      rcases hlies1 with h | h
      · intro e; subst e; exact hgB h.symm
      · intro e; subst e; simp [Value.ownBlock] at h; omega
    have hli : (Value.slice (some ⟨g, 0, none⟩) (ws.length + 1) c1).ownBlock = vw.ownBlock ∨ ∃ k, (Value.slice (some ⟨g, 0, none⟩) (ws.length + 1) c1).ownBlock = some k ∧ w.heap.size ≤ k := by
      rcases hlies1 with h | h
      · exact .inl h
      · exact .inr ⟨_, h, by simp⟩
    have hown1' : w1.ownsRow base 38 1 (.slice (some ⟨g, 0, none⟩) (ws.length + 1) c1) (ws.length + 1) (U (ws ++ [0])) := by simpa [U] using hown1
    have hx : w1.cell? ⟨g, n / 64, none⟩ = some (.int .u64 0) := by
      rw [HB64.out.1, hown1'.cellAt _ (by omega), U_at _ _ (by simp)]
      simp [List.getD]
    have hfx : w1.frozen? ⟨g, n / 64, none⟩ = false := hown1'.frozenAt _
    have HKL : Hid (_ ∧ _) := ⟨K1, hli⟩
    have HOW : Hid (w1.ownsRow base 38 1 (.slice (some ⟨g, 0, none⟩) (ws.length + 1) c1) (ws.length + 1) (U (ws ++ [0]))) := hown1'
    have hlt : n / 64 < ws.length + 1 := by have := HB64.out.1; omega
    clear hown1 hown1' hg1 hlies1 hbk K1 hli hown hc0 hc1 hc2 hc3 hf
    go_wp2
    go_ret
    refine ⟨rfl, _, ?_, ?_, ?_, ?_, ?_, HKL.out.2⟩
    · exact owns_other (owns_other HOW.out ⟨B, 1, none⟩ _ (by simpa [Value.ownBlock] using hgB1)) ⟨B, 2, none⟩ _ (by simpa [Value.ownBlock] using hgB1)
    · simp [go_sem, e1]
    · simp [go_sem, e2]
    · simp [go_sem, e3]
    · exact Kp.setCell (Kp.setCell HKL.out.1 (Or.inl (Or.inl rfl)) _) (Or.inl (Or.inl rfl)) _
end Go.Proofs.Qxb6601294a
