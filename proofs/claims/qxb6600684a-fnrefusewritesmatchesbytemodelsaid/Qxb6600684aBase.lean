import Derived.Test.Qxb6600684aRows
import Derived.Test.Qxb6600684aLaws
import Derived.Deep.QuietTactic
import Derived.BigQuiet
namespace Go.Proofs.Qxb6600684a
open Go.RowKit

theorem info5 : (Try.prog.info? 5).map (fun i => (i.zero, i.size, i.bytes)) = some (some (.int .u8 0), 1, 1) := by kernel_rfl
theorem info3 : (Try.prog.info? 3).map (fun i => (i.zero, i.size, i.bytes)) = some (some (.int .i64 0), 1, 8) := by kernel_rfl

/-- A slice value that is read: its elements are the integers zs. -/
def Rd (k : IntKind) (w : World) (v : Value) (zs : List Int) : Prop :=
  ∃ a cap, v = .slice a zs.length cap ∧ zs.length ≤ cap ∧ cap ≤ maxLen ∧ (a = none → cap = 0) ∧
    (zs.length = 0 ∨ ∃ b o, a = some ⟨b, o, none⟩ ∧ ∀ i, i < zs.length → w.cell? ⟨b, o + i, none⟩ = some (.int k (zs.getD i 0)))

/-- The first k elements copied, the rest zero. -/
def mix (kd : IntKind) (zs : List Int) (k : Nat) : List Value := (zs.take k).map (Value.int kd) ++ List.replicate (zs.length - k) (.int kd 0)
theorem mix_zero (kd : IntKind) (zs : List Int) : mix kd zs 0 = List.replicate zs.length (.int kd 0) := by simp [mix]
theorem mix_end (kd : IntKind) (zs : List Int) : mix kd zs zs.length = zs.map (Value.int kd) := by simp [mix]
theorem mix_step (kd : IntKind) (zs : List Int) (k : Nat) (h : k < zs.length) : (mix kd zs k).set k (.int kd (zs.getD k 0)) = mix kd zs (k + 1) := by
  unfold mix
  have e : zs.length - k = (zs.length - (k + 1)) + 1 := by omega
  rw [e, List.replicate_succ, List.set_append_right _ _ (by simp; omega)]
  have e2 : k - (List.map (Value.int kd) (zs.take k)).length = 0 := by simp; omega
  rw [e2, List.set_cons_zero, List.take_succ_eq_append_getElem h, List.map_append, List.append_assoc]
  simp only [List.map_cons, List.map_nil, List.cons_append, List.nil_append, List.getD, List.getElem?_eq_getElem h, Option.getD_some]
theorem mix_at (kd : IntKind) (zs : List Int) (k : Nat) (h : k < zs.length) : (mix kd zs k)[k]? = some (.int kd 0) := by
  unfold mix
  have e : zs.length - k = (zs.length - (k + 1)) + 1 := by omega
  rw [List.getElem?_append_right (by simp; omega), e, List.replicate_succ]
  have e2 : k - (List.map (Value.int kd) (zs.take k)).length = 0 := by simp; omega
  rw [e2]; rfl
theorem mix_length (kd : IntKind) (zs : List Int) (k : Nat) (h : k ≤ zs.length) : (mix kd zs k).length = zs.length := by simp [mix]; omega

set_option maxHeartbeats 400000 in
theorem clone_some (x : Addr) (cap : Nat) (zs : List Int) (w : World) (hl : zs.length ≤ 1048576) (hx : zs.length = 0 ∨ ∃ b o, x = ⟨b, o, none⟩ ∧ ∀ i, i < zs.length → w.cell? ⟨b, o + i, none⟩ = some (.int .u8 (zs.getD i 0))) :
    Calls Try.prog 8 #[.slice (some x) zs.length cap] w fun e w' => ∃ v', e = .returned v' ∧ w'.ownsRow w.heap.size 5 1 v' zs.length (zs.map (Value.int .u8)) ∧ w.grownBy w' none := by
  have q22 : ∀ (w : World) (a : Option Addr) (n c n' c' : Nat), (binOp .eql 22 (.slice a n c) (.slice none n' c')).run Try.prog w = .ok (.bool a.isNone) w := fun w a n c n' c' => Lib.run_eql_slice_nil w _ _ a n c n' c' Try.underlying22
  obtain ⟨i0, hi, hz0, hz1, hz2⟩ := info_parts info5
  go_enter Try.func8, Try.ntmps8
  go_wp2_with (at_make; refine wpList_make_full _ rfl _ _ 22 rfl w.heap.size 5 i0 (.int .u8 0) 1 Try.underlying22 hi hz0 hz1 _ _ _ _ zs.length rfl rfl rfl rfl ?b1 ?b2 ?b3 ?_)
  case b1 => rw [hz2]; omega
  case b2 => unfold maxLen; omega
  case b3 => exact Nat.le_refl _
  intro w0 hown0 hgrow0
  go_wp2
  go_loopw [4] (fun i wr => ∃ k : Nat, k ≤ zs.length ∧ i = .int .i64 k ∧ wr.ownsRow w.heap.size 5 1 (.slice (some ⟨w.heap.size, 0, none⟩) zs.length zs.length) zs.length (mix .u8 zs k) ∧ w.grownBy wr none) (fun i _ => zs.length - (intOf i).toNat)
  case atStart => exact ⟨0, Nat.zero_le _, rfl, by rw [mix_zero]; simpa [toList_madeCells_one, Value.cells] using hown0, hgrow0⟩
  case round =>
    obtain ⟨k, hk, rfl, hown, hg⟩ := hrel
    by_cases hlt : k < zs.length
    · rcases hx with h0 | ⟨b, o, rfl, hc⟩
      · omega
      have hcell := grownBy_cell hg (hc k hlt)
      have hdst : wr.cell? ⟨w.heap.size, k, none⟩ = (mix .u8 zs k)[k]? := hown.cellAt k (by omega)
      rw [mix_at _ _ _ hlt] at hdst
      have hfz := hown.frozenAt k
      have R := hown.stored k (.int .u8 (zs.getD k 0))
      rw [mix_step _ _ _ hlt] at R
      generalize zs.getD k 0 = z at hcell R
      have hz : w.heap.size < wr.heap.size := (hown.lt _ rfl).2
      go_wp2
      go_roundw
      case rel => exact ⟨k + 1, by omega, by go_num, R.1, grownBy_trans hg R.2 (.inr fun j h => by cases h; exact Nat.le_refl _)⟩
      case measure => simp [intOf]; omega
    · go_wp2
      go_ret
      have : k = zs.length := by omega
      subst this
      rw [mix_end] at hown
      exact ⟨_, rfl, hown, hg⟩

set_option maxHeartbeats 400000 in
theorem cloneInts_some (x : Addr) (cap : Nat) (zs : List Int) (w : World) (hl : zs.length ≤ 1048576) (hx : zs.length = 0 ∨ ∃ b o, x = ⟨b, o, none⟩ ∧ ∀ i, i < zs.length → w.cell? ⟨b, o + i, none⟩ = some (.int .i64 (zs.getD i 0))) :
    Calls Try.prog 15 #[.slice (some x) zs.length cap] w fun e w' => ∃ v', e = .returned v' ∧ w'.ownsRow w.heap.size 3 1 v' zs.length (zs.map (Value.int .i64)) ∧ w.grownBy w' none := by
  have q27 : ∀ (w : World) (a : Option Addr) (n c n' c' : Nat), (binOp .eql 27 (.slice a n c) (.slice none n' c')).run Try.prog w = .ok (.bool a.isNone) w := fun w a n c n' c' => Lib.run_eql_slice_nil w _ _ a n c n' c' Try.underlying27
  obtain ⟨i0, hi, hz0, hz1, hz2⟩ := info_parts info3
  go_enter Try.func15, Try.ntmps15
  go_wp2_with (at_make; refine wpList_make_full _ rfl _ _ 27 rfl w.heap.size 3 i0 (.int .i64 0) 1 Try.underlying27 hi hz0 hz1 _ _ _ _ zs.length rfl rfl rfl rfl ?b1 ?b2 ?b3 ?_)
  case b1 => rw [hz2]; omega
  case b2 => unfold maxLen; omega
  case b3 => exact Nat.le_refl _
  intro w0 hown0 hgrow0
  go_wp2
  go_loopw [4] (fun i wr => ∃ k : Nat, k ≤ zs.length ∧ i = .int .i64 k ∧ wr.ownsRow w.heap.size 3 1 (.slice (some ⟨w.heap.size, 0, none⟩) zs.length zs.length) zs.length (mix .i64 zs k) ∧ w.grownBy wr none) (fun i _ => zs.length - (intOf i).toNat)
  case atStart => exact ⟨0, Nat.zero_le _, rfl, by rw [mix_zero]; simpa [toList_madeCells_one, Value.cells] using hown0, hgrow0⟩
  case round =>
    obtain ⟨k, hk, rfl, hown, hg⟩ := hrel
    by_cases hlt : k < zs.length
    · rcases hx with h0 | ⟨b, o, rfl, hc⟩
      · omega
      have hcell := grownBy_cell hg (hc k hlt)
      have hdst : wr.cell? ⟨w.heap.size, k, none⟩ = (mix .i64 zs k)[k]? := hown.cellAt k (by omega)
      rw [mix_at _ _ _ hlt] at hdst
      have hfz := hown.frozenAt k
      have R := hown.stored k (.int .i64 (zs.getD k 0))
      rw [mix_step _ _ _ hlt] at R
      generalize zs.getD k 0 = z at hcell R
      have hz : w.heap.size < wr.heap.size := (hown.lt _ rfl).2
      go_wp2
      go_roundw
      case rel => exact ⟨k + 1, by omega, by go_num, R.1, grownBy_trans hg R.2 (.inr fun j h => by cases h; exact Nat.le_refl _)⟩
      case measure => simp [intOf]; omega
    · go_wp2
      go_ret
      have : k = zs.length := by omega
      subst this
      rw [mix_end] at hown
      exact ⟨_, rfl, hown, hg⟩

theorem rd_nil {a : Option Addr} {cap : Nat} {zs : List Int} (h : a = none → cap = 0) (hl : zs.length ≤ cap) (ha : a = none) : cap = 0 ∧ zs = [] :=
  ⟨h ha, List.eq_nil_of_length_eq_zero (by have := h ha; omega)⟩

set_option maxHeartbeats 400000 in
theorem clone_nil (w : World) : Calls Try.prog 8 #[.slice none 0 0] w fun e w' => e = .returned (.slice none 0 0) ∧ w' = w := by
  have q22 : ∀ (w : World) (a : Option Addr) (n c n' c' : Nat), (binOp .eql 22 (.slice a n c) (.slice none n' c')).run Try.prog w = .ok (.bool a.isNone) w := fun w a n c n' c' => Lib.run_eql_slice_nil w _ _ a n c n' c' Try.underlying22
  go_enter Try.func8, Try.ntmps8
  go_wp2
  go_ret
  exact ⟨rfl, rfl⟩

set_option maxHeartbeats 400000 in
theorem cloneInts_nil (w : World) : Calls Try.prog 15 #[.slice none 0 0] w fun e w' => e = .returned (.slice none 0 0) ∧ w' = w := by
  have q27 : ∀ (w : World) (a : Option Addr) (n c n' c' : Nat), (binOp .eql 27 (.slice a n c) (.slice none n' c')).run Try.prog w = .ok (.bool a.isNone) w := fun w a n c n' c' => Lib.run_eql_slice_nil w _ _ a n c n' c' Try.underlying27
  go_enter Try.func15, Try.ntmps15
  go_wp2
  go_ret
  exact ⟨rfl, rfl⟩

theorem clone_any (v : Value) (zs : List Int) (w : World) (h : Rd .u8 w v zs) (hl : zs.length ≤ 1048576) :
    Calls Try.prog 8 #[v] w fun e w' => ∃ v', e = .returned v' ∧ w'.ownsRow w.heap.size 5 1 v' zs.length (zs.map (Value.int .u8)) ∧ w.grownBy w' none := by
  obtain ⟨a, cap, rfl, hc, hm, hn, hx⟩ := h
  cases a with
  | none =>
    obtain ⟨rfl, rfl⟩ := rd_nil hn hc rfl
    refine (clone_nil w).mono ?_
    rintro e w' ⟨rfl, rfl⟩
    exact ⟨_, rfl, World.ownsRow_nil _ _ _ _, World.grownBy.refl _ _⟩
  | some x => exact clone_some x cap zs w hl (hx.elim .inl fun ⟨b, o, h1, h2⟩ => .inr ⟨b, o, by simpa using h1, h2⟩)

theorem cloneInts_any (v : Value) (zs : List Int) (w : World) (h : Rd .i64 w v zs) (hl : zs.length ≤ 1048576) :
    Calls Try.prog 15 #[v] w fun e w' => ∃ v', e = .returned v' ∧ w'.ownsRow w.heap.size 3 1 v' zs.length (zs.map (Value.int .i64)) ∧ w.grownBy w' none := by
  obtain ⟨a, cap, rfl, hc, hm, hn, hx⟩ := h
  cases a with
  | none =>
    obtain ⟨rfl, rfl⟩ := rd_nil hn hc rfl
    refine (cloneInts_nil w).mono ?_
    rintro e w' ⟨rfl, rfl⟩
    exact ⟨_, rfl, World.ownsRow_nil _ _ _ _, World.grownBy.refl _ _⟩
  | some x => exact cloneInts_some x cap zs w hl (hx.elim .inl fun ⟨b, o, h1, h2⟩ => .inr ⟨b, o, by simpa using h1, h2⟩)

/-- What is owned can be read. -/
theorem rd_of_owns {k : IntKind} {w : World} {base : Nat} {e : TypeId} {v : Value} {zs : List Int} {n : Nat} (h : w.ownsRow base e 1 v n (zs.map (Value.int k))) : Rd k w v zs := by
  have hn : zs.length = n := by simpa using h.1
  subst hn
  rcases h.2 with ⟨rfl, h0⟩ | ⟨g, cap, cur, rfl, hb, hg, hc, hm, hs, ht⟩
  · exact ⟨none, 0, by rw [h0], by omega, by simp, fun _ => rfl, .inl h0⟩
  · refine ⟨_, cap, rfl, hc, hm, fun h => by simp at h, .inr ⟨g, 0, rfl, fun i hi => ?_⟩⟩
    have := h.cellAt i (by omega)
    rw [Nat.zero_add, this]
    simp [List.getD, hi]

/-- The head of what is owned. -/
theorem owns_take {w : World} {base : Nat} {e : TypeId} {g n cap f : Nat} {xs : List Value} (h : w.ownsRow base e 1 (.slice (some ⟨g, 0, none⟩) n cap) n xs) (hf : f ≤ n) : w.ownsRow base e 1 (.slice (some ⟨g, 0, none⟩) f cap) f (xs.take f) := by
  have h1 := h.1
  refine ⟨by simp; omega, ?_⟩
  rcases h.2 with ⟨h', _⟩ | ⟨g', cap', cur, h', hb, hg, hc, hm, hs, ht⟩
  · simp at h'
  · simp only [Value.slice.injEq, Option.some.injEq, Addr.mk.injEq, and_true, true_and] at h'
    obtain ⟨rfl, rfl⟩ := h'
    refine .inr ⟨g, cap, cur, rfl, hb, hg, by omega, hm, hs, ?_⟩
    rw [← ht, List.take_take]
    congr 1
    omega

theorem rd_kept {k : IntKind} {w w' : World} {v : Value} {zs : List Int} (h : Rd k w v zs) (hc : ∀ a u, w.cell? a = some u → w'.cell? a = some u) : Rd k w' v zs := by
  obtain ⟨a, cap, rfl, h1, hm, hn, hx⟩ := h
  exact ⟨a, cap, rfl, h1, hm, hn, hx.elim .inl fun ⟨b, o, h1, h2⟩ => .inr ⟨b, o, h1, fun i hi => hc _ _ (h2 i hi)⟩⟩
theorem rd_grown {k : IntKind} {w w' : World} {v : Value} {zs : List Int} (h : Rd k w v zs) (hg : w.grownBy w' none) : Rd k w' v zs := rd_kept h fun _ _ => grownBy_cell hg

set_option maxHeartbeats 1000000 in
theorem bytes5_any (a0 : Option Addr) (len0 cap0 : Nat) (a1 : Int) (a2 : Option Addr) (len2 cap2 : Nat) (a3 : Option Addr) (len3 cap3 : Nat) (a4 : ByteArray) (w : World) :
    Calls Try.prog 19 #[.slice a0 len0 cap0, .int .i64 a1, .slice a2 len2 cap2, .slice a3 len3 cap3, .string a4] w fun e w' => ∃ b, e = .returned (.bool b) ∧ w' = w := by
  go_enter Try.func19, Try.ntmps19
  go_wp2
  all_goals
    go_ret
    exact ⟨_, rfl, rfl⟩

set_option maxHeartbeats 1000000 in
theorem bytes4_any (a0 : Option Addr) (len0 cap0 : Nat) (a1 : Int) (a2 : Option Addr) (len2 cap2 : Nat) (a3 : Option Addr) (len3 cap3 : Nat) (a4 : ByteArray) (w : World) :
    Calls Try.prog 13 #[.slice a0 len0 cap0, .int .i64 a1, .slice a2 len2 cap2, .slice a3 len3 cap3, .string a4] w fun e w' => ∃ b, e = .returned (.bool b) ∧ w' = w := by
  go_enter Try.func13, Try.ntmps13
  go_wp2
  all_goals
    go_ret
    exact ⟨_, rfl, rfl⟩

set_option maxHeartbeats 400000 in
theorem equal_some (b o c b' o' c' : Nat) (zs : List Int) (w : World) (hl : zs.length ≤ 1073741824)
    (hc : ∀ i, i < zs.length → w.cell? ⟨b, o + i, none⟩ = some (.int .u8 (zs.getD i 0))) (hc' : ∀ i, i < zs.length → w.cell? ⟨b', o' + i, none⟩ = some (.int .u8 (zs.getD i 0))) :
    Calls Try.prog 18 #[.slice (some ⟨b, o, none⟩) zs.length c, .slice (some ⟨b', o', none⟩) zs.length c'] w fun e w' => e = .returned (.bool true) ∧ ∃ m, w' = w.drewN m := by
  go_enter Try.func18, Try.ntmps18
  go_wp2
  go_loopw [5] (fun i wr => ∃ k : Nat, k ≤ zs.length ∧ i = .int .i64 k ∧ ∃ m, wr = w.drewN m) (fun i _ => zs.length - (intOf i).toNat)
  case atStart => exact ⟨0, Nat.zero_le _, rfl, 0, rfl⟩
  case round =>
    obtain ⟨k, hk, rfl, m, rfl⟩ := hrel
    by_cases hlt : k < zs.length
    · have g1 := hc k hlt
      have g2 := hc' k hlt
      clear hc hc'
      generalize zs.getD k 0 = z at g1 g2
      go_wp2
      go_quiet (fail)
      go_wp2
      go_roundw
      case rel => exact ⟨k + 1, by omega, by go_num, _, rfl⟩
      case measure => simp [intOf]; omega
    · go_wp2
      go_ret
      exact ⟨rfl, m, rfl⟩

set_option maxHeartbeats 400000 in
theorem equal_none (a a' : Option Addr) (c c' : Nat) (w : World) :
    Calls Try.prog 18 #[.slice a 0 c, .slice a' 0 c'] w fun e w' => e = .returned (.bool true) ∧ ∃ m, w' = w.drewN m := by
  go_enter Try.func18, Try.ntmps18
  go_wp2
  refine wp_loop_rounds 1 ?_
  rw [rounds_succ]
  go_wp2
  go_ret
  exact ⟨rfl, 0, rfl⟩

theorem equal_any (v v' : Value) (zs : List Int) (w : World) (h : Rd .u8 w v zs) (h' : Rd .u8 w v' zs) (hl : zs.length ≤ 1073741824) :
    Calls Try.prog 18 #[v, v'] w fun e w' => e = .returned (.bool true) ∧ ∃ m, w' = w.drewN m := by
  obtain ⟨a, cap, rfl, hc, hm, hn, hx⟩ := h
  obtain ⟨a', cap', rfl, hc', hm', hn', hx'⟩ := h'
  by_cases h0 : zs.length = 0
  · rw [h0]; exact equal_none a a' cap cap' w
  · rcases hx with h | ⟨b, o, rfl, hx⟩
    · exact absurd h h0
    rcases hx' with h | ⟨b', o', rfl, hx'⟩
    · exact absurd h h0
    exact equal_some b o cap b' o' cap' zs w hl hx hx'

/-- The spans lie in order between prev and n. -/
def Chain (n : Int) : Int → List Int → List Int → Prop
  | _, [], _ => True
  | prev, s :: S, e :: E => prev ≤ s ∧ s ≤ e ∧ e ≤ n ∧ Chain n e S E
  | _, _ :: _, [] => True

theorem chain_step {n p : Int} {S E : List Int} {k : Nat} (hk : k < S.length) (he : S.length = E.length) (h1 : p ≤ S.getD k 0) (h2 : S.getD k 0 ≤ E.getD k 0) (h3 : E.getD k 0 ≤ n)
    (h : Chain n (E.getD k 0) (S.drop (k + 1)) (E.drop (k + 1))) : Chain n p (S.drop k) (E.drop k) := by
  have hk' : k < E.length := by omega
  rw [List.drop_eq_getElem_cons hk, List.drop_eq_getElem_cons hk']
  simp only [List.getD, List.getElem?_eq_getElem hk, List.getElem?_eq_getElem hk', Option.getD_some] at h1 h2 h3 h
  exact ⟨h1, h2, h3, h⟩

set_option maxHeartbeats 400000 in
theorem spans_some (n f : Int) (b o c b' o' c' : Nat) (S E : List Int) (w : World) (hl : S.length ≤ 1073741824) (he : S.length = E.length)
    (hc : ∀ i, i < S.length → w.cell? ⟨b, o + i, none⟩ = some (.int .i64 (S.getD i 0))) (hc' : ∀ i, i < E.length → w.cell? ⟨b', o' + i, none⟩ = some (.int .i64 (E.getD i 0))) (h1 : 0 ≤ f) (h2 : f ≤ n) :
    Calls Try.prog 14 #[.int .i64 n, .int .i64 f, .slice (some ⟨b, o, none⟩) S.length c, .slice (some ⟨b', o', none⟩) S.length c'] w fun e w' => ∃ r, e = .returned (.bool r) ∧ (r = true → Chain n f S E) ∧ ∃ m, w' = w.drewN m := by
  have HE : Hid (S.length = E.length) := he
  clear he
  have hd : decide (f < 0) = false := by simp; omega
  go_enter Try.func14, Try.ntmps14
  go_wp2
  go_loopw [9, 10] (fun p i wr => ∃ (k : Nat) (q : Int), k ≤ S.length ∧ i = .int .i64 k ∧ p = .int .i64 q ∧ (Chain n q (S.drop k) (E.drop k) → Chain n f S E) ∧ ∃ m, wr = w.drewN m) (fun _ i _ => S.length - (intOf i).toNat)
  case atStart => exact ⟨0, f, Nat.zero_le _, rfl, rfl, fun h => by simpa using h, 0, rfl⟩
  case round =>
    obtain ⟨k, q, hk, rfl, rfl, hch, m, rfl⟩ := hrel
    by_cases hlt : k < S.length
    · have g1 := hc k hlt
      have g2 := hc' k (by have := HE.out; omega)
      have HS : Hid (q ≤ S.getD k 0 → S.getD k 0 ≤ E.getD k 0 → E.getD k 0 ≤ n → Chain n (E.getD k 0) (S.drop (k + 1)) (E.drop (k + 1)) → Chain n f S E) := fun h1 h2 h3 h => hch (chain_step hlt HE.out h1 h2 h3 h)
      clear hch
      clear hc hc'
      generalize S.getD k 0 = s at g1 HS
      generalize E.getD k 0 = t at g2 HS
      by_cases c1 : s < q
      · go_wp2
        go_quiet (fail)
        go_wp2
        go_ret
        exact ⟨_, rfl, fun h => by simp at h, m + nq, by rw [World.drewN_drewN]⟩
      have d1 : decide (s < q) = false := by simpa using c1
      by_cases c2 : t < s
      · go_wp2
        go_quiet (fail)
        go_wp2
        go_ret
        exact ⟨_, rfl, fun h => by simp at h, m + nq, by rw [World.drewN_drewN]⟩
      have d2 : decide (t < s) = false := by simpa using c2
      by_cases c3 : n < t
      · go_wp2
        go_quiet (fail)
        go_wp2
        go_ret
        exact ⟨_, rfl, fun h => by simp at h, m + nq, by rw [World.drewN_drewN]⟩
      have d3 : decide (n < t) = false := by simpa using c3
      go_wp2
      go_quiet (fail)
      go_wp2
      go_roundw
      case rel => exact ⟨k + 1, t, by omega, by go_num, rfl, fun h => HS.out (by omega) (by omega) (by omega) h, _, rfl⟩
      case measure => simp [intOf]; omega
    · go_wp2
      go_ret
      exact ⟨_, rfl, fun _ => hch (by rw [List.drop_of_length_le (by omega)]; simp [Chain]), m, rfl⟩

set_option maxHeartbeats 400000 in
theorem spans_zero (n f : Int) (a a' : Option Addr) (c c' : Nat) (w : World) (h1 : 0 ≤ f) (h2 : f ≤ n) :
    Calls Try.prog 14 #[.int .i64 n, .int .i64 f, .slice a 0 c, .slice a' 0 c'] w fun e w' => ∃ r, e = .returned (.bool r) ∧ w' = w := by
  have hd : decide (f < 0) = false := by simp; omega
  go_enter Try.func14, Try.ntmps14
  go_wp2
  refine wp_loop_rounds 1 ?_
  rw [rounds_succ]
  go_wp2
  go_ret
  exact ⟨_, rfl, rfl⟩

set_option maxHeartbeats 400000 in
theorem spans_off1 (n f : Int) (a a' : Option Addr) (l l' c c' : Nat) (w : World) (h : ((l : Int) == (l' : Int)) = false) :
    Calls Try.prog 14 #[.int .i64 n, .int .i64 f, .slice a l c, .slice a' l' c'] w fun e w' => e = .returned (.bool false) ∧ w' = w := by
  go_enter Try.func14, Try.ntmps14
  go_wp2
  go_ret
  exact ⟨rfl, rfl⟩

set_option maxHeartbeats 400000 in
theorem spans_off2 (n f : Int) (a a' : Option Addr) (l c c' : Nat) (w : World) (h : f < 0 ∨ n < f) :
    Calls Try.prog 14 #[.int .i64 n, .int .i64 f, .slice a l c, .slice a' l c'] w fun e w' => e = .returned (.bool false) ∧ w' = w := by
  by_cases h1 : f < 0
  · go_enter Try.func14, Try.ntmps14
    go_wp2
    go_ret
    exact ⟨rfl, rfl⟩
  · have hd : decide (f < 0) = false := by simp; omega
    have h2 : n < f := by omega
    go_enter Try.func14, Try.ntmps14
    go_wp2
    go_ret
    exact ⟨rfl, rfl⟩

/-- cmdb1SpansValid: where it says yes the spans lie in order. -/
theorem spans_any (n f : Int) (v v' : Value) (S E : List Int) (w : World) (h : Rd .i64 w v S) (h' : Rd .i64 w v' E) (hl : S.length ≤ 1073741824) :
    Calls Try.prog 14 #[.int .i64 n, .int .i64 f, v, v'] w fun e w' => ∃ r, e = .returned (.bool r) ∧ (r = true → S.length = E.length ∧ 0 ≤ f ∧ f ≤ n ∧ Chain n f S E) ∧ ∃ m, w' = w.drewN m := by
  obtain ⟨a, cap, rfl, hc, hm, hn, hx⟩ := h
  obtain ⟨a', cap', rfl, hc', hm', hn', hx'⟩ := h'
  by_cases hle : S.length = E.length
  · by_cases hf : f < 0 ∨ n < f
    · rw [← hle]
      refine (spans_off2 n f a a' S.length cap cap' w hf).mono ?_
      rintro e w' ⟨rfl, rfl⟩
      exact ⟨_, rfl, fun h => by simp at h, 0, rfl⟩
    · by_cases h0 : S.length = 0
      · rw [← hle, h0]
        refine (spans_zero n f a a' cap cap' w (by omega) (by omega)).mono ?_
        rintro e w' ⟨r, rfl, rfl⟩
        obtain rfl : S = [] := List.eq_nil_of_length_eq_zero h0
        exact ⟨_, rfl, fun _ => ⟨rfl, by omega, by omega, by simp [Chain]⟩, 0, rfl⟩
      · rcases hx with h | ⟨b, o, rfl, hx⟩
        · exact absurd h h0
        rcases hx' with h | ⟨b', o', rfl, hx'⟩
        · exact absurd (hle.trans h) h0
        rw [← hle]
        refine (spans_some n f b o cap b' o' cap' S E w hl hle hx hx' (by omega) (by omega)).mono ?_
        rintro e w' ⟨r, rfl, hr, hw⟩
        exact ⟨r, rfl, fun h => ⟨rfl, by omega, by omega, hr h⟩, hw⟩
  · refine (spans_off1 n f a a' S.length E.length cap cap' w (by simp; omega)).mono ?_
    rintro e w' ⟨rfl, rfl⟩
    exact ⟨_, rfl, fun h => by simp at h, 0, rfl⟩
end Go.Proofs.Qxb6600684a
