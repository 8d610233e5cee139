import Derived.Test.Qxb6600752aClone
namespace Go.Proofs.Qxb6600752a
open Go.RowKit Go.Maps

/-- The cells of a slice of strings, told at the slice's own address. -/
abbrev SRow (w : World) (a3 : Option Addr) (ss : List ByteArray) : Prop := ss.length = 0 ∨ ∃ b o, a3 = some ⟨b, o, none⟩ ∧ ∀ i, (h : i < ss.length) → w.cell? ⟨b, o + i, none⟩ = some (.string ss[i])

set_option maxHeartbeats 1000000 in
theorem bytes22_any (a0 a1 a2 a3 a4 : Option Addr) (l0 c0 l1 c1 l2 c2 c3 l4 c4 : Nat) (ss : List ByteArray) (w : World) (m0 : l0 ≤ maxLen) (m1 : l1 ≤ maxLen) (m2 : l2 ≤ maxLen) (m3 : ss.length ≤ maxLen) (m4 : l4 ≤ maxLen) (hs : ∀ s ∈ ss, s.size ≤ maxLen) (hx : SRow w a3 ss) :
    Calls Try.prog 22 #[.slice a0 l0 c0, .slice a1 l1 c1, .slice a2 l2 c2, .slice a3 ss.length c3, .slice a4 l4 c4] w fun e w' => ∃ b, e = .returned (.bool b) ∧ w' = w := by
  unfold maxLen at *
  go_enter Try.func22, Try.ntmps22
  go_wp2
  all_goals try (go_ret; exact ⟨_, rfl, rfl⟩)
  go_loopw [11, 12] (fun sn si wr => ∃ (k : Nat) (z : Int), k ≤ ss.length ∧ si = .int .i64 k ∧ sn = .int .i64 z ∧ 0 ≤ z ∧ z ≤ 1048576 ∧ wr = w) (fun _ si _ => ss.length - (intOf si).toNat)
  case atStart => exact ⟨0, _, Nat.zero_le _, rfl, rfl, by omega, by omega, rfl⟩
  case round =>
    obtain ⟨k, z, hk, rfl, rfl, hz0, hz1, rfl⟩ := hrel
    by_cases hlt : k < ss.length
    · rcases hx with h0 | ⟨b, o, rfl, hc⟩
      · omega
      have hcell := hc k hlt
      have hsz := hs _ (List.getElem_mem hlt)
      generalize ss[k] = s at hcell hsz
      have hki : (0 : Int) ≤ (k : Int) := by omega
      have hkp : (k : Int) < (ss.length : Int) := by omega
      clear hc
      go_wp2
      all_goals try (go_ret; exact ⟨_, rfl, rfl⟩)
      go_roundw
      case rel => exact ⟨k + 1, _, by omega, by go_num, rfl, by omega, by omega, by first | rfl | trivial⟩
      case measure => simp [intOf]; omega
    · go_wp2
      all_goals (go_ret; exact ⟨_, rfl, rfl⟩)

set_option maxHeartbeats 1000000 in
theorem big9_any (a0 a1 a2 a3 a4 : Option Addr) (l0 c0 l1 c1 l2 c2 c3 l4 c4 : Nat) (ss : List ByteArray) (w : World) (m0 : l0 ≤ maxLen) (m1 : l1 ≤ maxLen) (m2 : l2 ≤ maxLen) (m3 : ss.length ≤ maxLen) (m4 : l4 ≤ maxLen) (hs : ∀ s ∈ ss, s.size ≤ maxLen) (hx : SRow w a3 ss) :
    Calls Try.prog 9 #[.slice a0 l0 c0, .slice a1 l1 c1, .slice a2 l2 c2, .slice a3 ss.length c3, .slice a4 l4 c4] w fun e w' => ∃ b, e = .returned (.bool b) ∧ w' = w := by
  unfold maxLen at *
  go_enter Try.func9, Try.ntmps9
  go_upto_region 1 with fail
  go_cut [35] from 13 (fun s wx => ∃ b, s = .bool b ∧ (b = false → l0 ≤ 131072 ∧ l1 ≤ 1048576 ∧ l2 ≤ 1048576 ∧ ss.length ≤ 65536 ∧ l4 ≤ 1048576) ∧ wx = w)
  case first =>
    go_wp2
    all_goals go_meet
    all_goals
      refine ⟨_, rfl, ?_, rfl⟩
      intro h
      first | (simp at h; done) | (simp at h; omega) | omega
  case rest =>
  obtain ⟨b, rfl, hb, hw⟩ := hcut
  have hw := hw.symm
  subst hw
  cases b with
  | true =>
    go_wp2
    go_ret
    exact ⟨Or.inr rfl, rfl⟩
  | false =>
  have hb := hb rfl
  go_wp2
  all_goals try (go_ret; first | exact ⟨_, rfl, rfl⟩ | exact ⟨Or.inr rfl, rfl⟩ | exact ⟨Or.inl rfl, rfl⟩)
  go_loopw [11, 12] (fun sn si wr => ∃ (k : Nat) (z : Int), k ≤ ss.length ∧ si = .int .i64 k ∧ sn = .int .i64 z ∧ 0 ≤ z ∧ z ≤ 1048576 ∧ wr = w) (fun _ si _ => ss.length - (intOf si).toNat)
  case atStart => exact ⟨0, _, Nat.zero_le _, rfl, rfl, by omega, by omega, rfl⟩
  case round =>
    obtain ⟨k, z, hk, rfl, rfl, hz0, hz1, rfl⟩ := hrel
    by_cases hlt : k < ss.length
    · rcases hx with h0 | ⟨b, o, rfl, hc⟩
      · omega
      have hcell := hc k hlt
      have hsz := hs _ (List.getElem_mem hlt)
      generalize ss[k] = s at hcell hsz
      have hki : (0 : Int) ≤ (k : Int) := by omega
      have hkp : (k : Int) < (ss.length : Int) := by omega
      clear hc
      go_wp2
      all_goals try (go_ret; first | exact ⟨_, rfl, rfl⟩ | exact ⟨Or.inr rfl, rfl⟩ | exact ⟨Or.inl rfl, rfl⟩)
      go_roundw
      case rel => exact ⟨k + 1, _, by omega, by go_num, rfl, by omega, by omega, by first | rfl | trivial⟩
      case measure => simp [intOf]; omega
    · go_wp2
      all_goals (go_ret; first | exact ⟨_, rfl, rfl⟩ | exact ⟨Or.inr rfl, rfl⟩ | exact ⟨Or.inl rfl, rfl⟩)
end Go.Proofs.Qxb6600752a
