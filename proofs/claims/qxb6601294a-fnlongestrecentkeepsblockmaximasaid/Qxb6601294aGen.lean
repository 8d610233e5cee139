import Derived.Test.Qxb6601294aAdd
namespace Go.Proofs.Qxb6601294a
open Go.RowKit

theorem info4 : (Try.prog.info? 4).map (fun i => (i.zero, i.size, i.bytes)) = some (some (.bool false), 1, 1) := by kernel_rfl

/-- A slice value that is read: its cells are xs (an element is one cell). -/
def Rv (w : World) (v : Value) (xs : List Value) : Prop :=
  ∃ a cap, v = .slice a xs.length cap ∧ xs.length ≤ cap ∧ cap ≤ maxLen ∧ (a = none → cap = 0) ∧
    (xs.length = 0 ∨ ∃ b o, a = some ⟨b, o, none⟩ ∧ ∀ i x, xs[i]? = some x → w.cell? ⟨b, o + i, none⟩ = some x)
theorem rv_grown {w w' : World} {v : Value} {xs : List Value} (h : Rv w v xs) (hg : w.grownBy w' none) : Rv w' v xs := by
  obtain ⟨a, cap, rfl, h1, hm, hn, hx⟩ := h
  exact ⟨a, cap, rfl, h1, hm, hn, hx.elim .inl fun ⟨b, o, h1, h2⟩ => .inr ⟨b, o, h1, fun i x hi => grownBy_cell hg (h2 i x hi)⟩⟩
theorem rv_of_owns {w : World} {base : Nat} {e : TypeId} {v : Value} {xs : List Value} {n : Nat} (h : w.ownsRow base e 1 v n xs) : Rv w v xs := by
  have hn : xs.length = n := by simpa using h.1
  subst hn
  rcases h.2 with ⟨rfl, h0⟩ | ⟨g, cap, cur, rfl, hb, hg, hc, hm, hs, ht⟩
  · exact ⟨none, 0, by rw [h0], by omega, by simp, fun _ => rfl, .inl h0⟩
  · refine ⟨_, cap, rfl, hc, hm, fun h => by simp at h, .inr ⟨g, 0, rfl, fun i x hi => ?_⟩⟩
    have hlt := (List.getElem?_eq_some_iff.1 hi).1
    rw [Nat.zero_add, h.cellAt i (by omega), hi]
theorem owns_grown {w w' : World} {base : Nat} {e : TypeId} {size : Nat} {v : Value} {n : Nat} {xs : List Value} (h : w.ownsRow base e size v n xs) (hg : w.grownBy w' none) : w'.ownsRow base e size v n xs := by
  refine h.kept hg ?_
  cases v.ownBlock <;> simp

/-- The first k cells copied, the rest z. -/
def mixV (z : Value) (xs : List Value) (k : Nat) : List Value := xs.take k ++ List.replicate (xs.length - k) z
theorem mixV_zero (z : Value) (xs : List Value) : mixV z xs 0 = List.replicate xs.length z := by simp [mixV]
theorem mixV_end (z : Value) (xs : List Value) : mixV z xs xs.length = xs := by simp [mixV]
theorem mixV_step (z : Value) (xs : List Value) (k : Nat) (h : k < xs.length) : (mixV z xs k).set k xs[k] = mixV z xs (k + 1) := by
  unfold mixV
  have e : xs.length - k = (xs.length - (k + 1)) + 1 := by omega
  rw [e, List.replicate_succ, List.set_append_right _ _ (by simp; omega)]
  have e2 : k - (xs.take k).length = 0 := by simp; omega
  rw [e2, List.set_cons_zero, List.take_succ_eq_append_getElem h, List.append_assoc]
  rfl
theorem mixV_at (z : Value) (xs : List Value) (k : Nat) (h : k < xs.length) : (mixV z xs k)[k]? = some z := by
  unfold mixV
  have e : xs.length - k = (xs.length - (k + 1)) + 1 := by omega
  rw [List.getElem?_append_right (by simp; omega), e, List.replicate_succ]
  have e2 : k - (xs.take k).length = 0 := by simp; omega
  rw [e2]; rfl

set_option maxHeartbeats 400000 in
theorem cloneBool_some (x : Addr) (cap : Nat) (bs : List Bool) (w : World) (hl : bs.length ≤ 1048576) (hx : bs.length = 0 ∨ ∃ b o, x = ⟨b, o, none⟩ ∧ ∀ i, (h : i < bs.length) → w.cell? ⟨b, o + i, none⟩ = some (.bool bs[i])) :
    Calls Try.prog 18 #[.slice (some x) bs.length cap] w fun e w' => ∃ v', e = .returned v' ∧ w'.ownsRow w.heap.size 4 1 v' bs.length (bs.map Value.bool) ∧ w.grownBy w' none := by
  have q26 : ∀ (w : World) (a : Option Addr) (n c n' c' : Nat), (binOp .eql 26 (.slice a n c) (.slice none n' c')).run Try.prog w = .ok (.bool a.isNone) w := fun w a n c n' c' => Lib.run_eql_slice_nil w _ _ a n c n' c' Try.underlying26
  obtain ⟨i0, hi, hz0, hz1, hz2⟩ := info_parts info4
  go_enter Try.func18, Try.ntmps18
  go_wp2_with (at_make; refine wpList_make_full _ rfl _ _ 26 rfl w.heap.size 4 i0 (.bool false) 1 Try.underlying26 hi hz0 hz1 _ _ _ _ bs.length rfl rfl rfl rfl ?b1 ?b2 ?b3 ?_)
  case b1 => rw [hz2]; omega
  case b2 => unfold maxLen; omega
  case b3 => exact Nat.le_refl _
  intro w0 hown0 hgrow0
  go_wp2
  go_loopw [4] (fun i wr => ∃ k : Nat, k ≤ bs.length ∧ i = .int .i64 k ∧ wr.ownsRow w.heap.size 4 1 (.slice (some ⟨w.heap.size, 0, none⟩) bs.length bs.length) bs.length (mixV (.bool false) (bs.map Value.bool) k) ∧ w.grownBy wr none) (fun i _ => bs.length - (intOf i).toNat)
  case atStart => exact ⟨0, Nat.zero_le _, rfl, by rw [mixV_zero]; simpa [toList_madeCells_one, Value.cells] using hown0, hgrow0⟩
  case round =>
    obtain ⟨k, hk, rfl, hown, hg⟩ := hrel
    by_cases hlt : k < bs.length
    · rcases hx with h0 | ⟨b, o, rfl, hc⟩
      · omega
      have hcell := grownBy_cell hg (hc k hlt)
      have hkm : k < (bs.map Value.bool).length := by simpa using hlt
      have hdst : wr.cell? ⟨w.heap.size, k, none⟩ = (mixV (.bool false) (bs.map Value.bool) k)[k]? := hown.cellAt k (by omega)
      rw [mixV_at _ _ _ hkm] at hdst
      have hfz := hown.frozenAt k
      have R := hown.stored k (.bool bs[k])
      have e : Value.bool bs[k] = (bs.map Value.bool)[k] := by simp
      rw [e, mixV_step _ _ _ hkm, ← e] at R
      clear e
      generalize bs[k] = z at hcell R
      have HR : Hid (_ ∧ _) := R
      have hz : w.heap.size < wr.heap.size := (hown.lt _ rfl).2
      clear R hc
      go_wp2
      go_roundw
      case rel => exact ⟨k + 1, by omega, by go_num, HR.out.1, grownBy_trans hg HR.out.2 (.inr fun j h => by cases h; exact Nat.le_refl _)⟩
      case measure => simp [intOf]; omega
    · go_wp2
      go_ret
      have : k = (bs.map Value.bool).length := by simp; omega
      subst this
      rw [mixV_end] at hown
      exact ⟨_, rfl, hown, hg⟩

set_option maxHeartbeats 400000 in
theorem cloneBool_nil (w : World) : Calls Try.prog 18 #[.slice none 0 0] w fun e w' => e = .returned (.slice none 0 0) ∧ w' = w := by
  have q26 : ∀ (w : World) (a : Option Addr) (n c n' c' : Nat), (binOp .eql 26 (.slice a n c) (.slice none n' c')).run Try.prog w = .ok (.bool a.isNone) w := fun w a n c n' c' => Lib.run_eql_slice_nil w _ _ a n c n' c' Try.underlying26
  go_enter Try.func18, Try.ntmps18
  go_wp2
  go_ret
  exact ⟨rfl, rfl⟩

theorem cloneBool_any (v : Value) (bs : List Bool) (w : World) (h : Rv w v (bs.map Value.bool)) (hl : bs.length ≤ 1048576) :
    Calls Try.prog 18 #[v] w fun e w' => ∃ v', e = .returned v' ∧ w'.ownsRow w.heap.size 4 1 v' bs.length (bs.map Value.bool) ∧ w.grownBy w' none := by
  obtain ⟨a, cap, rfl, hc, hm, hn, hx⟩ := h
  simp only [List.length_map] at hc hx ⊢
  cases a with
  | none =>
    obtain rfl := hn rfl
    obtain rfl : bs = [] := List.eq_nil_of_length_eq_zero (by omega)
    refine (cloneBool_nil w).mono ?_
    rintro e w' ⟨rfl, rfl⟩
    exact ⟨_, rfl, World.ownsRow_nil _ _ _ _, World.grownBy.refl _ _⟩
  | some x => exact cloneBool_some x cap bs w hl (hx.elim .inl fun ⟨b, o, h1, h2⟩ => .inr ⟨b, o, by simpa using h1, fun i hi => h2 i _ (by simp [hi])⟩)

set_option maxHeartbeats 400000 in
theorem bytes17_any (a0 : Int) (a1 : Option Addr) (len cap : Nat) (w : World) : Calls Try.prog 17 #[.int .i64 a0, .slice a1 len cap] w fun e w' => ∃ b, e = .returned (.bool b) ∧ w' = w := by
  go_enter Try.func17, Try.ntmps17
  go_wp2
  all_goals
    go_ret
    exact ⟨_, rfl, rfl⟩
set_option maxHeartbeats 400000 in
theorem bytes19_any (a0 : Int) (a1 : Option Addr) (len cap : Nat) (w : World) : Calls Try.prog 19 #[.int .i64 a0, .slice a1 len cap] w fun e w' => ∃ b, e = .returned (.bool b) ∧ w' = w := by
  go_enter Try.func19, Try.ntmps19
  go_wp2
  all_goals
    go_ret
    exact ⟨_, rfl, rfl⟩
end Go.Proofs.Qxb6601294a
