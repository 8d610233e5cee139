import Derived.Test.Qxb6600684aZz
namespace Go.Proofs.Qxb6600684a
open Go.RowKit

/-- cmdb1Line's answer. -/
def lineB (c : Int) : Bool := (c == 13) || (c == 10)
theorem fix_yes {c : Int} (h : lineB c = true) : fixC c = 32 := by unfold lineB at h; unfold fixC; simp at h; rw [if_pos h]
theorem fix_no {c : Int} (h : lineB c = false) : fixC c = c := by unfold lineB at h; unfold fixC; simp at h; rw [if_neg (by omega)]

set_option maxHeartbeats 400000 in
theorem lineB_any (c : Int) (w : World) : Calls Try.prog 23 #[.int .u8 c] w fun e w' => e = .returned (.bool (lineB c)) ∧ w = w' := by
  by_cases h1 : c = 13
  · subst h1
    go_enter Try.func23, Try.ntmps23
    go_wp2
    go_ret
    exact ⟨rfl, rfl⟩
  · have d1 : (c == 13) = false := by simpa using h1
    by_cases h2 : c = 10
    · subst h2
      go_enter Try.func23, Try.ntmps23
      go_wp2
      go_ret
      exact ⟨rfl, rfl⟩
    · have d2 : (c == 10) = false := by simpa using h2
      have e : lineB c = false := by simp [lineB, h1, h2]
      rw [e]
      go_enter Try.func23, Try.ntmps23
      go_wp2
      go_ret
      exact ⟨rfl, rfl⟩

theorem msgI_at (s : ByteArray) (k : Nat) (h : k < s.size) : (msgI s).getD k 0 = (s[k].toNat : Int) := by
  have h2 : k < s.data.toList.length := by rw [Array.length_toList]; exact h
  unfold msgI
  simp only [List.getD, List.getElem?_map, List.getElem?_eq_getElem h2, Option.map_some, Option.getD_some]
  rfl

set_option maxHeartbeats 400000 in
theorem reply_any (base : Nat) (v : Value) (xs : List Int) (s : ByteArray) (w : World) (hown : w.ownsRow base 5 1 v xs.length (xs.map (Value.int .u8))) (hb : base ≤ w.heap.size) (hl : xs.length + s.size + 3 ≤ 1073741824) :
    Calls Try.prog 26 #[v, .string s] w fun e w' => ∃ v', e = .returned v' ∧ w'.ownsRow base 5 1 v' (xs ++ errI s).length ((xs ++ errI s).map (Value.int .u8)) ∧ Ext w v w' v' := by
  obtain ⟨i0, hi, hz0, hz1, hz2⟩ := info_parts info5
  go_enter Try.func26, Try.ntmps26
  go_wp2_with (at_builtin; refine wpList_append_src _ rfl (.tmp 7) (.tmp 8) 22 22 rfl base 5 i0 (.int .u8 0) 1 1 Try.underlying22 hi hz0 hz1 hz2 rfl _ xs.length _ rfl (hown.alloc _) _ 1 [.int .u8 45] rfl (Src.ofSlice _ Try.underlying22 _ 1 1 _ rfl ?q2 ?q22) ?q3 ?q4 ?q5 ?_)
  case q2 =>
    intro j u hj
    match j, hj with
    | 0, hj => simp at hj; subst hj; simp [Addr.add]
  case q22 => intro u hu; simp at hu; subst hu; rfl
  case q3 => unfold maxLen; omega
  case q4 => omega
  case q5 => simp; omega
  intro v1 w1 hown1 hg1 hlies1
  have E1 : Ext w v w1 v1 := (Ext.keep _ (World.grownBy_alloc w _ none)).trans (Ext.app hg1 hlies1 (by simp))
  have hown1' : w1.ownsRow base 5 1 v1 (xs ++ [45]).length ((xs ++ [45]).map (Value.int .u8)) := by simpa using hown1
  have hz := E1.grown.size
  have HM : Hid ((msgI s).length = s.size) := msgI_length s
  clear hown1 hg1 hlies1 hown
  go_wp2
  go_loopw [0, 5] (fun d i wr => ∃ k : Nat, k ≤ s.size ∧ i = .int .i64 k ∧ wr.ownsRow base 5 1 d (xs.length + 1 + k) ((xs ++ 45 :: ((msgI s).take k).map fixC).map (Value.int .u8)) ∧ Ext w1 v1 wr d) (fun _ i _ => s.size - (intOf i).toNat)
  case atStart => exact ⟨0, Nat.zero_le _, rfl, by simpa using hown1', Ext.refl _ _⟩
  case round =>
    obtain ⟨k, hk, rfl, hown, hE⟩ := hrel
    have hsz := hE.grown.size
    by_cases hlt : k < s.size
    · have hat := msgI_at s k hlt
      have hts : (msgI s).take (k + 1) = (msgI s).take k ++ [(s[k].toNat : Int)] := by
        have h2 : k < (msgI s).length := by rw [HM.out]; exact hlt
        rw [List.take_succ_eq_append_getElem h2]
        simp only [List.getD, List.getElem?_eq_getElem h2, Option.getD_some] at hat
        rw [hat]
      have HT : Hid ((xs ++ 45 :: ((msgI s).take (k + 1)).map fixC).map (Value.int .u8) = (xs ++ 45 :: ((msgI s).take k).map fixC).map (Value.int .u8) ++ [.int .u8 (fixC (s[k].toNat : Int))]) := by show _ = _; rw [hts]; simp
      clear hat hts
      generalize (xs ++ 45 :: ((msgI s).take k).map fixC).map (Value.int .u8) = ys at hown HT
      go_wp2_with fail
      refine (lineB_any _ _).mono ?_
      rintro e w' ⟨rfl, rfl⟩
      cases hB : lineB (s[k].toNat : Int) with
      | true =>
        have HB := fix_yes hB
        rw [HB] at HT
        clear HB
        go_wp2_with (at_builtin; refine wpList_append_src _ rfl (.tmp 21) (.tmp 23) 22 22 rfl base 5 i0 (.int .u8 0) 1 1 Try.underlying22 hi hz0 hz1 hz2 rfl _ (xs.length + 1 + k) _ rfl (hown.alloc _) _ 1 [.int .u8 32] rfl (Src.ofSlice _ Try.underlying22 _ 1 1 _ rfl ?q2 ?q22) ?q3 ?q4 ?q5 ?_)
        case q2 =>
          intro j u hj
          match j, hj with
          | 0, hj => simp at hj; subst hj; simp [Addr.add]
        case q22 => intro u hu; simp at hu; subst hu; rfl
        case q3 => unfold maxLen; omega
        case q4 => omega
        case q5 => simp; omega
        intro v2 w2 hown2 hg2 hlies2
        have E2 : Ext wr u0 w2 v2 := (Ext.keep _ (World.grownBy_alloc wr _ none)).trans (Ext.app hg2 hlies2 (by simp))
        go_wp2
        go_roundw
        case rel => exact ⟨k + 1, by omega, by go_num, by rw [HT.out]; exact hown2, hE.trans E2⟩
        case measure => simp [intOf]; omega
      | false =>
        have HB := fix_no hB
        rw [HB] at HT
        clear HB
        go_wp2_with (at_builtin; refine wpList_append_src _ rfl (.tmp 21) (.tmp 23) 22 22 rfl base 5 i0 (.int .u8 0) 1 1 Try.underlying22 hi hz0 hz1 hz2 rfl _ (xs.length + 1 + k) _ rfl (hown.alloc _) _ 1 [.int .u8 (s[k].toNat : Int)] rfl (Src.ofSlice _ Try.underlying22 _ 1 1 _ rfl ?q2 ?q22) ?q3 ?q4 ?q5 ?_)
        case q2 =>
          intro j u hj
          match j, hj with
          | 0, hj => simp at hj; subst hj; simp [Addr.add]
        case q22 => intro u hu; simp at hu; subst hu; rfl
        case q3 => unfold maxLen; omega
        case q4 => omega
        case q5 => simp; omega
        intro v2 w2 hown2 hg2 hlies2
        have E2 : Ext wr u0 w2 v2 := (Ext.keep _ (World.grownBy_alloc wr _ none)).trans (Ext.app hg2 hlies2 (by simp))
        go_wp2
        go_roundw
        case rel => exact ⟨k + 1, by omega, by go_num, by rw [HT.out]; exact hown2, hE.trans E2⟩
        case measure => simp [intOf]; omega
    · obtain rfl : k = s.size := by omega
      rw [List.take_of_length_le (by rw [HM.out]; exact Nat.le_refl _)] at hown
      have hel : (xs ++ errI s).length = xs.length + 1 + s.size + 2 := by rw [List.length_append, errI_length]; omega
      have hem : (xs ++ errI s).map (Value.int .u8) = (xs ++ 45 :: (msgI s).map fixC).map (Value.int .u8) ++ [.int .u8 13, .int .u8 10] := by simp [errI, lineI]
      have HEL : Hid (_ ∧ _) := ⟨hel, hem⟩
      clear hel hem
      generalize (xs ++ 45 :: (msgI s).map fixC).map (Value.int .u8) = ys at hown HEL
      go_wp2_with (at_builtin; refine wpList_append_src _ rfl (.tmp 25) (.tmp 26) 22 22 rfl base 5 i0 (.int .u8 0) 1 1 Try.underlying22 hi hz0 hz1 hz2 rfl _ (xs.length + 1 + s.size) _ rfl (hown.alloc _) _ 2 [.int .u8 13, .int .u8 10] rfl (Src.ofSlice _ Try.underlying22 _ 2 2 _ rfl ?q2 ?q22) ?q3 ?q4 ?q5 ?_)
      case q2 =>
        intro j u hj
        match j, hj with
        | 0, hj => simp at hj; subst hj; simp [Addr.add]
        | 1, hj => simp at hj; subst hj; simp [Addr.add]
      case q22 => intro u hu; simp at hu; rcases hu with rfl | rfl <;> rfl
      case q3 => unfold maxLen; omega
      case q4 => omega
      case q5 => simp; omega
      intro v2 w2 hown2 hg2 hlies2
      have E2 : Ext wr u0 w2 v2 := (Ext.keep _ (World.grownBy_alloc wr _ none)).trans (Ext.app hg2 hlies2 (by simp))
      go_wp2
      go_ret
      refine ⟨v2, rfl, ?_, (E1.trans hE).trans E2⟩
      rw [HEL.out.1, HEL.out.2]
      exact hown2
end Go.Proofs.Qxb6600684a
