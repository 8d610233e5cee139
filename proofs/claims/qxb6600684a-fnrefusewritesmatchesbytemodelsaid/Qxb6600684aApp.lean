import Derived.Test.Qxb6600684aBase
namespace Go.Proofs.Qxb6600684a
open Go.RowKit

/-- From (w, v) to (w', v'): new blocks, and writes to v's own row alone; v' lies in v's row or in a new block. -/
structure Ext (w : World) (v : Value) (w' : World) (v' : Value) : Prop where
  grown : w.grownBy w' v.ownBlock
  lies : v'.ownBlock = v.ownBlock ∨ ∃ k, v'.ownBlock = some k ∧ w.heap.size ≤ k

theorem Ext.refl (w : World) (v : Value) : Ext w v w v := ⟨World.grownBy.refl _ _, .inl rfl⟩
theorem Ext.trans {w w1 w2 : World} {v v1 v2 : Value} (h : Ext w v w1 v1) (k : Ext w1 v1 w2 v2) : Ext w v w2 v2 := by
  refine ⟨grownBy_trans h.grown k.grown ?_, ?_⟩
  · rcases h.lies with h1 | ⟨j, h1, h2⟩
    · exact .inl h1
    · exact .inr fun i hi => by rw [h1] at hi; cases hi; exact h2
  · rcases k.lies with k1 | ⟨j, k1, k2⟩
    · rw [k1]; exact h.lies
    · exact .inr ⟨j, k1, Nat.le_trans h.grown.size k2⟩
theorem Ext.keep {w w1 : World} (v : Value) (h : w.grownBy w1 none) : Ext w v w1 v := ⟨grownBy_weak h _, .inl rfl⟩
theorem Ext.app {w w1 : World} {v v1 : Value} {H : Nat} (h : w.grownBy w1 v.ownBlock) (k : v1.ownBlock = v.ownBlock ∨ v1.ownBlock = some H) (hH : w.heap.size ≤ H) : Ext w v w1 v1 :=
  ⟨h, k.elim .inl fun k => .inr ⟨_, k, hH⟩⟩
theorem Ext.same {w w1 : World} {v v1 v2 : Value} (h : Ext w v w1 v1) (e : v2.ownBlock = v1.ownBlock) : Ext w v w1 v2 := ⟨h.grown, by rw [e]; exact h.lies⟩

theorem owns_form {w : World} {base : Nat} {e : TypeId} {v : Value} {n : Nat} {xs : List Value} (h : w.ownsRow base e 1 v n xs) : (v = .slice none 0 0 ∧ n = 0) ∨ ∃ g cap, v = .slice (some ⟨g, 0, none⟩) n cap := by
  rcases h.2 with ⟨h, h0⟩ | ⟨g, cap, cur, rfl, _⟩
  · exact .inl ⟨h, h0⟩
  · exact .inr ⟨g, cap, rfl⟩

theorem owns_some {w : World} {base : Nat} {e : TypeId} {v : Value} {n : Nat} {xs : List Value} (h : w.ownsRow base e 1 v n xs) (hn : 0 < n) : ∃ g cap, v = .slice (some ⟨g, 0, none⟩) n cap := by
  rcases owns_form h with ⟨_, h0⟩ | h
  · omega
  · exact h

theorem oneCell_ints (k : IntKind) (zs : List Int) : ∀ u ∈ zs.map (Value.int k), u.oneCell' = true := ints_oneCell k zs

/-- A slice that is read, as the source of an append. -/
theorem src_rd {w : World} {x : Addr} {cap : Nat} {zs : List Int} (hx : zs.length = 0 ∨ ∃ b o, x = ⟨b, o, none⟩ ∧ ∀ i, i < zs.length → w.cell? ⟨b, o + i, none⟩ = some (.int .u8 (zs.getD i 0))) :
    Src Try.prog 1 22 (.slice (some x) zs.length cap) zs.length (zs.map (Value.int .u8)) w := by
  refine Src.ofSlice w Try.underlying22 x zs.length cap _ (by simp) ?_ (oneCell_ints _ _)
  intro j u hj
  rcases hx with h0 | ⟨b, o, rfl, hc⟩
  · rw [List.eq_nil_of_length_eq_zero h0] at hj; simp at hj
  · have hlt : j < zs.length := by
      have := (List.getElem?_eq_some_iff.1 hj).1
      simpa using this
    have := hc j hlt
    rw [Addr.add_lit, this]
    rw [List.getElem?_map, List.getElem?_eq_getElem hlt] at hj
    simp only [List.getD, List.getElem?_eq_getElem hlt, Option.getD_some]
    simpa using hj

set_option maxHeartbeats 400000 in
theorem sclone_some (x : Addr) (cap : Nat) (zs : List Int) (w : World) (hl : zs.length ≤ 1073741824) (hx : zs.length = 0 ∨ ∃ b o, x = ⟨b, o, none⟩ ∧ ∀ i, i < zs.length → w.cell? ⟨b, o + i, none⟩ = some (.int .u8 (zs.getD i 0))) :
    Calls Try.prog 30 #[.slice (some x) zs.length cap] w fun e w' => ∃ v', e = .returned v' ∧ w'.ownsRow w.heap.size 5 1 v' zs.length (zs.map (Value.int .u8)) ∧ w.grownBy w' none := by
  have q22 : ∀ (w : World) (a : Option Addr) (n c n' c' : Nat), (binOp .eql 22 (.slice a n c) (.slice none n' c')).run Try.prog w = .ok (.bool a.isNone) w := fun w a n c n' c' => Lib.run_eql_slice_nil w _ _ a n c n' c' Try.underlying22
  obtain ⟨i0, hi, hz0, hz1, hz2⟩ := info_parts info5
  go_enter Try.func30, Try.ntmps30
  go_wp2_with (at_builtin; refine wpList_append_src _ rfl (.tmp 5) (.tmp 6) 22 22 rfl w.heap.size 5 i0 (.int .u8 0) 1 1 Try.underlying22 hi hz0 hz1 hz2 rfl _ 0 [] rfl ?q1 _ zs.length (zs.map (Value.int .u8)) rfl ?q2 ?q3 ?q4 ?q5 ?_)
  case q1 => exact World.ownsRow_made w #[] 0 (Nat.le_refl _) (Nat.zero_le _) rfl
  case q2 => exact src_rd (hx.elim .inl fun ⟨b, o, h1, h2⟩ => .inr ⟨b, o, h1, fun i hi => grownBy_cell (World.grownBy_alloc w _ none) (h2 i hi)⟩)
  case q3 => unfold maxLen; omega
  case q4 => omega
  case q5 => simp
  intro v' w1 hown hg hlies
  go_wp2
  go_ret
  exact ⟨_, rfl, by simpa using hown, grownBy_trans (World.grownBy_alloc w _ none) hg (.inr fun k h => by cases h; exact Nat.le_refl _)⟩

set_option maxHeartbeats 400000 in
theorem sclone_nil (w : World) : Calls Try.prog 30 #[.slice none 0 0] w fun e w' => e = .returned (.slice none 0 0) ∧ w' = w := by
  have q22 : ∀ (w : World) (a : Option Addr) (n c n' c' : Nat), (binOp .eql 22 (.slice a n c) (.slice none n' c')).run Try.prog w = .ok (.bool a.isNone) w := fun w a n c n' c' => Lib.run_eql_slice_nil w _ _ a n c n' c' Try.underlying22
  go_enter Try.func30, Try.ntmps30
  go_wp2
  go_ret
  exact ⟨rfl, rfl⟩

theorem sclone_any (v : Value) (zs : List Int) (w : World) (h : Rd .u8 w v zs) (hl : zs.length ≤ 1073741824) :
    Calls Try.prog 30 #[v] w fun e w' => ∃ v', e = .returned v' ∧ w'.ownsRow w.heap.size 5 1 v' zs.length (zs.map (Value.int .u8)) ∧ w.grownBy w' none := by
  obtain ⟨a, cap, rfl, hc, hm, hn, hx⟩ := h
  cases a with
  | none =>
    obtain ⟨rfl, rfl⟩ := rd_nil hn hc rfl
    refine (sclone_nil w).mono ?_
    rintro e w' ⟨rfl, rfl⟩
    exact ⟨_, rfl, World.ownsRow_nil _ _ _ _, World.grownBy.refl _ _⟩
  | some x => exact sclone_some x cap zs w hl (hx.elim .inl fun ⟨b, o, h1, h2⟩ => .inr ⟨b, o, by simpa using h1, h2⟩)


/-- A message's bytes as integers; a line break is written as a space. -/
def msgI (s : ByteArray) : List Int := s.data.toList.map fun b => (b.toNat : Int)
def fixC (c : Int) : Int := if c = 13 ∨ c = 10 then 32 else c
theorem msgI_length (s : ByteArray) : (msgI s).length = s.size := by
  unfold msgI
  rw [List.length_map, Array.length_toList]
  rfl
theorem byteCells_eq (s : ByteArray) : byteCells s = (msgI s).map (Value.int .u8) := by
  unfold byteCells msgI
  rw [List.map_map]
  rfl
/-- What one error line adds. -/
def lineI (s : ByteArray) : List Int := (msgI s).map fixC ++ [13, 10]
def errI (s : ByteArray) : List Int := 45 :: lineI s
theorem lineI_length (s : ByteArray) : (lineI s).length = s.size + 2 := by simp [lineI, msgI_length]
theorem errI_length (s : ByteArray) : (errI s).length = s.size + 3 := by simp [errI, lineI_length]

/-- The first k bytes behind xs cleaned. -/
def half (xs ms : List Int) (k : Nat) : List Int := xs ++ ((ms.take k).map fixC ++ ms.drop k)
theorem half_zero (xs ms : List Int) : half xs ms 0 = xs ++ ms := by simp [half]
theorem half_end (xs ms : List Int) : half xs ms ms.length = xs ++ ms.map fixC := by simp [half]
theorem half_length (xs ms : List Int) (k : Nat) : (half xs ms k).length = xs.length + ms.length := by simp [half]; omega
theorem half_at (xs ms : List Int) (k : Nat) (h : k < ms.length) : (half xs ms k)[xs.length + k]? = some (ms.getD k 0) := by
  unfold half
  rw [List.getElem?_append_right (by omega), List.getElem?_append_right (by simp; omega)]
  have e : xs.length + k - xs.length - (List.map fixC (List.take k ms)).length = 0 := by simp; omega
  rw [e, List.getElem?_drop]
  simp [List.getD, h]
theorem half_step (xs ms : List Int) (k : Nat) (h : k < ms.length) : (half xs ms k).set (xs.length + k) (fixC (ms.getD k 0)) = half xs ms (k + 1) := by
  unfold half
  rw [List.set_append_right _ _ (by omega), List.set_append_right _ _ (by simp; omega)]
  have e : xs.length + k - xs.length - (List.map fixC (List.take k ms)).length = 0 := by simp; omega
  rw [e, List.drop_eq_getElem_cons h, List.set_cons_zero, List.take_succ_eq_append_getElem h, List.map_append, List.append_assoc]
  simp only [List.map_cons, List.map_nil, List.cons_append, List.nil_append, List.getD, List.getElem?_eq_getElem h, Option.getD_some]
theorem set_same (l : List Int) (k : Nat) (c : Int) (h : l[k]? = some c) : l.set k c = l := by
  apply List.ext_getElem?
  intro j
  rw [List.getElem?_set]
  split
  · rename_i hj
    subst hj
    split
    · exact h.symm
    · rename_i h2; rw [List.getElem?_eq_none (by omega)]
  · rfl
theorem half_keep (xs ms : List Int) (k : Nat) (h : k < ms.length) (hc : ¬ (ms.getD k 0 = 13 ∨ ms.getD k 0 = 10)) : half xs ms (k + 1) = half xs ms k := by
  rw [← half_step xs ms k h]
  unfold fixC
  rw [if_neg hc]
  exact set_same _ _ _ (half_at xs ms k h)
theorem map_set_ints (l : List Int) (k : Nat) (c : Int) : (l.map (Value.int .u8)).set k (.int .u8 c) = (l.set k c).map (Value.int .u8) := by rw [List.map_set]

set_option maxHeartbeats 400000 in
theorem line_any (base : Nat) (v : Value) (xs : List Int) (s : ByteArray) (w : World) (hown : w.ownsRow base 5 1 v xs.length (xs.map (Value.int .u8))) (hb : base ≤ w.heap.size) (hl : xs.length + s.size + 2 ≤ 1073741824) (hpos : 0 < xs.length) :
    Calls Try.prog 33 #[v, .string s] w fun e w' => ∃ v', e = .returned v' ∧ w'.ownsRow base 5 1 v' (xs ++ lineI s).length ((xs ++ lineI s).map (Value.int .u8)) ∧ Ext w v w' v' := by
  obtain ⟨i0, hi, hz0, hz1, hz2⟩ := info_parts info5
  obtain ⟨g0, c, rfl⟩ := owns_some hown hpos
  have hml := msgI_length s
  have hbc := byteCells_eq s
  have HB : Hid (byteCells s = (msgI s).map (Value.int .u8)) := hbc
  have HM : Hid ((msgI s).length = s.size) := hml
  clear hbc hml
  go_enter Try.func33, Try.ntmps33
  go_wp2_with (at_builtin; refine wpList_append_src _ rfl (.tmp 9) (.tmp 10) 22 9 rfl base 5 i0 (.int .u8 0) 1 1 Try.underlying22 hi hz0 hz1 hz2 rfl _ xs.length _ rfl hown _ s.size (byteCells s) rfl (Src.ofString _ Try.underlying9 s) ?q3 ?q4 hb ?_)
  case q3 => unfold maxLen; omega
  case q4 => omega
  intro v1 w1 hown1 hg1 hlies1
  obtain ⟨g, c1, hv1⟩ := owns_some hown1 (by omega)
  subst hv1
  rw [HB.out, ← List.map_append, ← half_zero] at hown1
  have hgl : base ≤ g ∧ g < w1.heap.size := hown1.lt _ rfl
  have E1 := Ext.app hg1 hlies1 (Nat.le_refl _)
  clear hg1 hlies1 HB hown
  go_wp2
  go_loopw [6] (fun i wr => ∃ k : Nat, k ≤ s.size ∧ i = .int .i64 ((xs.length + k : Nat) : Int) ∧ wr.ownsRow base 5 1 (.slice (some ⟨g, 0, none⟩) (xs.length + s.size) c1) (xs.length + s.size) ((half xs (msgI s) k).map (Value.int .u8)) ∧ w1.grownBy wr (some g)) (fun i _ => xs.length + s.size - (intOf i).toNat)
  case atStart => exact ⟨0, Nat.zero_le _, rfl, hown1, World.grownBy.refl _ _⟩
  case round =>
    obtain ⟨k, hk, rfl, hown, hg⟩ := hrel
    by_cases hlt : k < s.size
    · have hkm : k < (msgI s).length := by rw [HM.out]; exact hlt
      have hcell : wr.cell? ⟨g, xs.length + k, none⟩ = ((half xs (msgI s) k).map (Value.int .u8))[xs.length + k]? := hown.cellAt _ (by omega)
      rw [List.getElem?_map, half_at _ _ _ hkm] at hcell
      have hfz := hown.frozenAt (xs.length + k)
      have R := hown.stored (xs.length + k) (.int .u8 (fixC ((msgI s).getD k 0)))
      rw [map_set_ints, half_step _ _ _ hkm] at R
      have HK : Hid (¬ ((msgI s).getD k 0 = 13 ∨ (msgI s).getD k 0 = 10) → half xs (msgI s) (k + 1) = half xs (msgI s) k) := half_keep xs (msgI s) k hkm
      generalize (msgI s).getD k 0 = z at hcell R HK
      simp only [Option.map_some] at hcell
      have HR : Hid (_ ∧ _) := R
      clear R hkm
      by_cases c1 : z = 13
      · subst c1
        go_wp2
        go_roundw
        case rel => exact ⟨k + 1, by omega, by go_num, HR.out.1, grownBy_trans hg HR.out.2 (.inl rfl)⟩
        case measure => simp [intOf]; omega
      · have d1 : (z == 13) = false := by simpa using c1
        by_cases c2 : z = 10
        · subst c2
          go_wp2
          go_roundw
          case rel => exact ⟨k + 1, by omega, by go_num, HR.out.1, grownBy_trans hg HR.out.2 (.inl rfl)⟩
          case measure => simp [intOf]; omega
        · have d2 : (z == 10) = false := by simpa using c2
          go_wp2
          go_roundw
          case rel => exact ⟨k + 1, by omega, by go_num, by rw [HK.out (by omega)]; exact hown, hg⟩
          case measure => simp [intOf]; omega
    · obtain rfl : k = s.size := by omega
      rw [← HM.out, half_end, HM.out] at hown
      have hsz := hg.size
      have hsz1 := E1.grown.size
      go_wp2_with (at_builtin; refine wpList_append_src _ rfl (.tmp 34) (.tmp 35) 22 22 rfl base 5 i0 (.int .u8 0) 1 1 Try.underlying22 hi hz0 hz1 hz2 rfl _ (xs.length + s.size) _ rfl (hown.alloc _) _ 2 [.int .u8 13, .int .u8 10] rfl (Src.ofSlice _ Try.underlying22 _ 2 2 _ rfl ?q2 ?q22) ?q3 ?q4 ?q5 ?_)
      case q2 =>
        intro j u hj
        match j, hj with
        | 0, hj => simp at hj; subst hj; simp [Addr.add]
        | 1, hj => simp at hj; subst hj; simp [Addr.add]
      case q22 => intro u hu; simp at hu; rcases hu with rfl | rfl <;> rfl
      case q3 => unfold maxLen; omega
      case q4 => omega
      case q5 => simp; omega
      intro v2 w2 hown2 hg2 hlies2
      go_wp2
      go_ret
      have E3 : Ext wr (.slice (some ⟨g, 0, none⟩) (xs.length + s.size) c1) w2 v2 := (Ext.keep _ (World.grownBy_alloc wr _ none)).trans (Ext.app hg2 hlies2 (by simp))
      have E2 : Ext w1 (.slice (some ⟨g, 0, none⟩) (xs.length + s.size) c1) wr (.slice (some ⟨g, 0, none⟩) (xs.length + s.size) c1) := ⟨hg, .inl rfl⟩
      refine ⟨v2, rfl, ?_, (E1.trans E2).trans E3⟩
      have el : (xs ++ lineI s).length = xs.length + s.size + 2 := by rw [List.length_append, lineI_length]; omega
      rw [el]
      simpa [lineI] using hown2

set_option maxHeartbeats 400000 in
theorem err_any (base : Nat) (v : Value) (xs : List Int) (s : ByteArray) (w : World) (hown : w.ownsRow base 5 1 v xs.length (xs.map (Value.int .u8))) (hb : base ≤ w.heap.size) (hl : xs.length + s.size + 3 ≤ 1073741824) :
    Calls Try.prog 31 #[v, .string s] w fun e w' => ∃ v', e = .returned v' ∧ w'.ownsRow base 5 1 v' (xs ++ errI s).length ((xs ++ errI s).map (Value.int .u8)) ∧ Ext w v w' v' := by
  obtain ⟨i0, hi, hz0, hz1, hz2⟩ := info_parts info5
  go_enter Try.func31, Try.ntmps31
  go_wp2_with (at_builtin; refine wpList_append_src _ rfl (.tmp 5) (.tmp 6) 22 22 rfl base 5 i0 (.int .u8 0) 1 1 Try.underlying22 hi hz0 hz1 hz2 rfl _ xs.length _ rfl (hown.alloc _) _ 1 [.int .u8 45] rfl (Src.ofSlice _ Try.underlying22 _ 1 1 _ rfl ?q2 ?q22) ?q3 ?q4 ?q5 ?_)
  case q2 =>
    intro j u hj
    match j, hj with
    | 0, hj => simp at hj; subst hj; simp [Addr.add]
  case q22 => intro u hu; simp at hu; subst hu; rfl
  case q3 => unfold maxLen; omega
  case q4 => omega
  case q5 => simp; omega
  intro v1 w1 hown1 hg1 hlies1
  have E1 : Ext w v w1 v1 := (Ext.keep _ (World.grownBy_alloc w _ none)).trans (Ext.app hg1 hlies1 (by simp))
  have hown1' : w1.ownsRow base 5 1 v1 (xs ++ [45]).length ((xs ++ [45]).map (Value.int .u8)) := by simpa using hown1
  have hz := E1.grown.size
  clear hown1 hg1 hlies1
  go_wp2_with (go_at_call 33; refine (line_any base v1 (xs ++ [45]) s w1 hown1' (by omega) (by simp; omega) (by simp)).mono ?_; rintro e w2 ⟨v2, rfl, hown2, E2⟩)
  go_ret
  refine ⟨v2, rfl, ?_, E1.trans E2⟩
  have e : xs ++ [45] ++ lineI s = xs ++ errI s := by simp [errI]
  rw [e] at hown2
  exact hown2
end Go.Proofs.Qxb6600684a
