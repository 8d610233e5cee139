import Derived.Test.Qxb6600752aGen
namespace Go.Proofs.Qxb6600752a
open Go.RowKit Go.Maps

theorem info2 : (Try.prog.info? 2).map (fun i => (i.zero, i.size, i.bytes)) = some (some (.int .i64 0), 1, 8) := by kernel_rfl
theorem info5 : (Try.prog.info? 5).map (fun i => (i.zero, i.size, i.bytes)) = some (some (.int .u8 0), 1, 1) := by kernel_rfl
theorem info9 : (Try.prog.info? 9).map (fun i => (i.zero, i.size, i.bytes)) = some (some (.string ByteArray.empty), 1, 16) := by kernel_rfl

set_option maxHeartbeats 400000 in
theorem cloneI_some (x : Addr) (cap : Nat) (bs : List Int) (w : World) (hl : bs.length ≤ 1048576) (hx : bs.length = 0 ∨ ∃ b o, x = ⟨b, o, none⟩ ∧ ∀ i, (h : i < bs.length) → w.cell? ⟨b, o + i, none⟩ = some (Value.int .i64 bs[i])) :
    Calls Try.prog 11 #[.slice (some x) bs.length cap] w fun e w' => ∃ v', e = .returned v' ∧ w'.ownsRow w.heap.size 2 1 v' bs.length (bs.map (Value.int .i64)) ∧ w.grownBy w' none := by
  have q22 : ∀ (w : World) (a : Option Addr) (n c n' c' : Nat), (binOp .eql 22 (.slice a n c) (.slice none n' c')).run Try.prog w = .ok (.bool a.isNone) w := fun w a n c n' c' => Lib.run_eql_slice_nil w _ _ a n c n' c' Try.underlying22
  obtain ⟨i0, hi, hz0, hz1, hz2⟩ := info_parts info2
  go_enter Try.func11, Try.ntmps11
  go_wp2_with (at_make; refine wpList_make_full _ rfl _ _ 22 rfl w.heap.size 2 i0 (.int .i64 0) 1 Try.underlying22 hi hz0 hz1 _ _ _ _ bs.length rfl rfl rfl rfl ?b1 ?b2 ?b3 ?_)
  case b1 => rw [hz2]; omega
  case b2 => unfold maxLen; omega
  case b3 => exact Nat.le_refl _
  intro w0 hown0 hgrow0
  go_wp2
  go_loopw [4] (fun i wr => ∃ k : Nat, k ≤ bs.length ∧ i = .int .i64 k ∧ wr.ownsRow w.heap.size 2 1 (.slice (some ⟨w.heap.size, 0, none⟩) bs.length bs.length) bs.length (mixV (.int .i64 0) (bs.map (Value.int .i64)) k) ∧ w.grownBy wr none) (fun i _ => bs.length - (intOf i).toNat)
  case atStart => exact ⟨0, Nat.zero_le _, rfl, by rw [mixV_zero]; simpa [toList_madeCells_one, Value.cells] using hown0, hgrow0⟩
  case round =>
    obtain ⟨k, hk, rfl, hown, hg⟩ := hrel
    by_cases hlt : k < bs.length
    · rcases hx with h0 | ⟨b, o, rfl, hc⟩
      · omega
      have hcell := grownBy_cell hg (hc k hlt)
      have hkm : k < (bs.map (Value.int .i64)).length := by simpa using hlt
      have hdst : wr.cell? ⟨w.heap.size, k, none⟩ = (mixV (.int .i64 0) (bs.map (Value.int .i64)) k)[k]? := hown.cellAt k (by omega)
      rw [mixV_at _ _ _ hkm] at hdst
      have hfz := hown.frozenAt k
      have R := hown.stored k (Value.int .i64 bs[k])
      have e : Value.int .i64 bs[k] = (bs.map (Value.int .i64))[k] := by simp
      rw [e, mixV_step _ _ _ hkm, ← e] at R
      clear e
      generalize bs[k] = z at hcell R
      have HR : Hid (_ ∧ _) := R
      have hz : w.heap.size < wr.heap.size := (hown.lt _ rfl).2
      clear R hc
      go_wp2
      go_roundw
      case rel => exact ⟨k + 1, by omega, by go_num, HR.out.1, grownBy_trans hg HR.out.2 (.inr fun j h => by cases h; exact Nat.le_refl _)⟩
      case measure => simp [intOf]; omega
    · go_wp2
      go_ret
      have : k = (bs.map (Value.int .i64)).length := by simp; omega
      subst this
      rw [mixV_end] at hown
      exact ⟨_, rfl, hown, hg⟩

set_option maxHeartbeats 400000 in
theorem cloneI_nil (w : World) : Calls Try.prog 11 #[.slice none 0 0] w fun e w' => e = .returned (.slice none 0 0) ∧ w' = w := by
  have q22 : ∀ (w : World) (a : Option Addr) (n c n' c' : Nat), (binOp .eql 22 (.slice a n c) (.slice none n' c')).run Try.prog w = .ok (.bool a.isNone) w := fun w a n c n' c' => Lib.run_eql_slice_nil w _ _ a n c n' c' Try.underlying22
  go_enter Try.func11, Try.ntmps11
  go_wp2
  go_ret
  exact ⟨rfl, rfl⟩

theorem cloneI_any (v : Value) (bs : List Int) (w : World) (h : Rv w v (bs.map (Value.int .i64))) (hl : bs.length ≤ 1048576) :
    Calls Try.prog 11 #[v] w fun e w' => ∃ v', e = .returned v' ∧ w'.ownsRow w.heap.size 2 1 v' bs.length (bs.map (Value.int .i64)) ∧ w.grownBy w' none := by
  obtain ⟨a, cap, rfl, hc, hm, hn, hx⟩ := h
  simp only [List.length_map] at hc hx ⊢
  cases a with
  | none =>
    obtain rfl := hn rfl
    obtain rfl : bs = [] := List.eq_nil_of_length_eq_zero (by omega)
    refine (cloneI_nil w).mono ?_
    rintro e w' ⟨rfl, rfl⟩
    exact ⟨_, rfl, World.ownsRow_nil _ _ _ _, World.grownBy.refl _ _⟩
  | some x => exact cloneI_some x cap bs w hl (hx.elim .inl fun ⟨b, o, h1, h2⟩ => .inr ⟨b, o, by simpa using h1, fun i hi => h2 i _ (by simp [hi])⟩)

set_option maxHeartbeats 400000 in
theorem cloneU_some (x : Addr) (cap : Nat) (bs : List Int) (w : World) (hl : bs.length ≤ 1048576) (hx : bs.length = 0 ∨ ∃ b o, x = ⟨b, o, none⟩ ∧ ∀ i, (h : i < bs.length) → w.cell? ⟨b, o + i, none⟩ = some (Value.int .u8 bs[i])) :
    Calls Try.prog 12 #[.slice (some x) bs.length cap] w fun e w' => ∃ v', e = .returned v' ∧ w'.ownsRow w.heap.size 5 1 v' bs.length (bs.map (Value.int .u8)) ∧ w.grownBy w' none := by
  have q23 : ∀ (w : World) (a : Option Addr) (n c n' c' : Nat), (binOp .eql 23 (.slice a n c) (.slice none n' c')).run Try.prog w = .ok (.bool a.isNone) w := fun w a n c n' c' => Lib.run_eql_slice_nil w _ _ a n c n' c' Try.underlying23
  obtain ⟨i0, hi, hz0, hz1, hz2⟩ := info_parts info5
  go_enter Try.func12, Try.ntmps12
  go_wp2_with (at_make; refine wpList_make_full _ rfl _ _ 23 rfl w.heap.size 5 i0 (.int .u8 0) 1 Try.underlying23 hi hz0 hz1 _ _ _ _ bs.length rfl rfl rfl rfl ?b1 ?b2 ?b3 ?_)
  case b1 => rw [hz2]; omega
  case b2 => unfold maxLen; omega
  case b3 => exact Nat.le_refl _
  intro w0 hown0 hgrow0
  go_wp2
  go_loopw [4] (fun i wr => ∃ k : Nat, k ≤ bs.length ∧ i = .int .i64 k ∧ wr.ownsRow w.heap.size 5 1 (.slice (some ⟨w.heap.size, 0, none⟩) bs.length bs.length) bs.length (mixV (.int .u8 0) (bs.map (Value.int .u8)) k) ∧ w.grownBy wr none) (fun i _ => bs.length - (intOf i).toNat)
  case atStart => exact ⟨0, Nat.zero_le _, rfl, by rw [mixV_zero]; simpa [toList_madeCells_one, Value.cells] using hown0, hgrow0⟩
  case round =>
    obtain ⟨k, hk, rfl, hown, hg⟩ := hrel
    by_cases hlt : k < bs.length
    · rcases hx with h0 | ⟨b, o, rfl, hc⟩
      · omega
      have hcell := grownBy_cell hg (hc k hlt)
      have hkm : k < (bs.map (Value.int .u8)).length := by simpa using hlt
      have hdst : wr.cell? ⟨w.heap.size, k, none⟩ = (mixV (.int .u8 0) (bs.map (Value.int .u8)) k)[k]? := hown.cellAt k (by omega)
      rw [mixV_at _ _ _ hkm] at hdst
      have hfz := hown.frozenAt k
      have R := hown.stored k (Value.int .u8 bs[k])
      have e : Value.int .u8 bs[k] = (bs.map (Value.int .u8))[k] := by simp
      rw [e, mixV_step _ _ _ hkm, ← e] at R
      clear e
      generalize bs[k] = z at hcell R
      have HR : Hid (_ ∧ _) := R
      have hz : w.heap.size < wr.heap.size := (hown.lt _ rfl).2
      clear R hc
      go_wp2
      go_roundw
      case rel => exact ⟨k + 1, by omega, by go_num, HR.out.1, grownBy_trans hg HR.out.2 (.inr fun j h => by cases h; exact Nat.le_refl _)⟩
      case measure => simp [intOf]; omega
    · go_wp2
      go_ret
      have : k = (bs.map (Value.int .u8)).length := by simp; omega
      subst this
      rw [mixV_end] at hown
      exact ⟨_, rfl, hown, hg⟩

set_option maxHeartbeats 400000 in
theorem cloneU_nil (w : World) : Calls Try.prog 12 #[.slice none 0 0] w fun e w' => e = .returned (.slice none 0 0) ∧ w' = w := by
  have q23 : ∀ (w : World) (a : Option Addr) (n c n' c' : Nat), (binOp .eql 23 (.slice a n c) (.slice none n' c')).run Try.prog w = .ok (.bool a.isNone) w := fun w a n c n' c' => Lib.run_eql_slice_nil w _ _ a n c n' c' Try.underlying23
  go_enter Try.func12, Try.ntmps12
  go_wp2
  go_ret
  exact ⟨rfl, rfl⟩

theorem cloneU_any (v : Value) (bs : List Int) (w : World) (h : Rv w v (bs.map (Value.int .u8))) (hl : bs.length ≤ 1048576) :
    Calls Try.prog 12 #[v] w fun e w' => ∃ v', e = .returned v' ∧ w'.ownsRow w.heap.size 5 1 v' bs.length (bs.map (Value.int .u8)) ∧ w.grownBy w' none := by
  obtain ⟨a, cap, rfl, hc, hm, hn, hx⟩ := h
  simp only [List.length_map] at hc hx ⊢
  cases a with
  | none =>
    obtain rfl := hn rfl
    obtain rfl : bs = [] := List.eq_nil_of_length_eq_zero (by omega)
    refine (cloneU_nil w).mono ?_
    rintro e w' ⟨rfl, rfl⟩
    exact ⟨_, rfl, World.ownsRow_nil _ _ _ _, World.grownBy.refl _ _⟩
  | some x => exact cloneU_some x cap bs w hl (hx.elim .inl fun ⟨b, o, h1, h2⟩ => .inr ⟨b, o, by simpa using h1, fun i hi => h2 i _ (by simp [hi])⟩)

set_option maxHeartbeats 400000 in
theorem cloneS_some (x : Addr) (cap : Nat) (bs : List ByteArray) (w : World) (hl : bs.length ≤ 1048576) (hx : bs.length = 0 ∨ ∃ b o, x = ⟨b, o, none⟩ ∧ ∀ i, (h : i < bs.length) → w.cell? ⟨b, o + i, none⟩ = some (Value.string bs[i])) :
    Calls Try.prog 13 #[.slice (some x) bs.length cap] w fun e w' => ∃ v', e = .returned v' ∧ w'.ownsRow w.heap.size 9 1 v' bs.length (bs.map (Value.string)) ∧ w.grownBy w' none := by
  have q24 : ∀ (w : World) (a : Option Addr) (n c n' c' : Nat), (binOp .eql 24 (.slice a n c) (.slice none n' c')).run Try.prog w = .ok (.bool a.isNone) w := fun w a n c n' c' => Lib.run_eql_slice_nil w _ _ a n c n' c' Try.underlying24
  obtain ⟨i0, hi, hz0, hz1, hz2⟩ := info_parts info9
  go_enter Try.func13, Try.ntmps13
  go_wp2_with (at_make; refine wpList_make_full _ rfl _ _ 24 rfl w.heap.size 9 i0 (.string ByteArray.empty) 1 Try.underlying24 hi hz0 hz1 _ _ _ _ bs.length rfl rfl rfl rfl ?b1 ?b2 ?b3 ?_)
  case b1 => rw [hz2]; omega
  case b2 => unfold maxLen; omega
  case b3 => exact Nat.le_refl _
  intro w0 hown0 hgrow0
  go_wp2
  go_loopw [4] (fun i wr => ∃ k : Nat, k ≤ bs.length ∧ i = .int .i64 k ∧ wr.ownsRow w.heap.size 9 1 (.slice (some ⟨w.heap.size, 0, none⟩) bs.length bs.length) bs.length (mixV (.string ByteArray.empty) (bs.map (Value.string)) k) ∧ w.grownBy wr none) (fun i _ => bs.length - (intOf i).toNat)
  case atStart => exact ⟨0, Nat.zero_le _, rfl, by rw [mixV_zero]; simpa [toList_madeCells_one, Value.cells] using hown0, hgrow0⟩
  case round =>
    obtain ⟨k, hk, rfl, hown, hg⟩ := hrel
    by_cases hlt : k < bs.length
    · rcases hx with h0 | ⟨b, o, rfl, hc⟩
      · omega
      have hcell := grownBy_cell hg (hc k hlt)
      have hkm : k < (bs.map (Value.string)).length := by simpa using hlt
      have hdst : wr.cell? ⟨w.heap.size, k, none⟩ = (mixV (.string ByteArray.empty) (bs.map (Value.string)) k)[k]? := hown.cellAt k (by omega)
      rw [mixV_at _ _ _ hkm] at hdst
      have hfz := hown.frozenAt k
      have R := hown.stored k (Value.string bs[k])
      have e : Value.string bs[k] = (bs.map (Value.string))[k] := by simp
      rw [e, mixV_step _ _ _ hkm, ← e] at R
      clear e
      generalize bs[k] = z at hcell R
      have HR : Hid (_ ∧ _) := R
      have hz : w.heap.size < wr.heap.size := (hown.lt _ rfl).2
      clear R hc
      go_wp2
      go_roundw
      case rel => exact ⟨k + 1, by omega, by go_num, HR.out.1, grownBy_trans hg HR.out.2 (.inr fun j h => by cases h; exact Nat.le_refl _)⟩
      case measure => simp [intOf]; omega
    · go_wp2
      go_ret
      have : k = (bs.map (Value.string)).length := by simp; omega
      subst this
      rw [mixV_end] at hown
      exact ⟨_, rfl, hown, hg⟩

set_option maxHeartbeats 400000 in
theorem cloneS_nil (w : World) : Calls Try.prog 13 #[.slice none 0 0] w fun e w' => e = .returned (.slice none 0 0) ∧ w' = w := by
  have q24 : ∀ (w : World) (a : Option Addr) (n c n' c' : Nat), (binOp .eql 24 (.slice a n c) (.slice none n' c')).run Try.prog w = .ok (.bool a.isNone) w := fun w a n c n' c' => Lib.run_eql_slice_nil w _ _ a n c n' c' Try.underlying24
  go_enter Try.func13, Try.ntmps13
  go_wp2
  go_ret
  exact ⟨rfl, rfl⟩

theorem cloneS_any (v : Value) (bs : List ByteArray) (w : World) (h : Rv w v (bs.map (Value.string))) (hl : bs.length ≤ 1048576) :
    Calls Try.prog 13 #[v] w fun e w' => ∃ v', e = .returned v' ∧ w'.ownsRow w.heap.size 9 1 v' bs.length (bs.map (Value.string)) ∧ w.grownBy w' none := by
  obtain ⟨a, cap, rfl, hc, hm, hn, hx⟩ := h
  simp only [List.length_map] at hc hx ⊢
  cases a with
  | none =>
    obtain rfl := hn rfl
    obtain rfl : bs = [] := List.eq_nil_of_length_eq_zero (by omega)
    refine (cloneS_nil w).mono ?_
    rintro e w' ⟨rfl, rfl⟩
    exact ⟨_, rfl, World.ownsRow_nil _ _ _ _, World.grownBy.refl _ _⟩
  | some x => exact cloneS_some x cap bs w hl (hx.elim .inl fun ⟨b, o, h1, h2⟩ => .inr ⟨b, o, by simpa using h1, fun i hi => h2 i _ (by simp [hi])⟩)

end Go.Proofs.Qxb6600752a
