import Derived.Test.Qxb6600684aApp
namespace Go.Proofs.Qxb6600684a
open Go.RowKit

theorem src_any {w : World} {v : Value} {zs : List Int} (h : Rd .u8 w v zs) : Src Try.prog 1 22 v zs.length (zs.map (Value.int .u8)) w := by
  obtain ⟨a, cap, rfl, hc, hm, hn, hx⟩ := h
  cases a with
  | none =>
    obtain ⟨rfl, rfl⟩ := rd_nil hn hc rfl
    exact Src.ofNil w Try.underlying22 0
  | some x => exact src_rd (hx.elim .inl fun ⟨b, o, h1, h2⟩ => .inr ⟨b, o, by simpa using h1, h2⟩)


/-- Slicing what is read. -/
theorem rd_slice {k : IntKind} {w : World} {v : Value} {zs : List Int} (hz : ∀ w', (sizeOf 5).run Try.prog w' = .ok 1 w') (h : Rd k w v zs) (l r : Nat) (h1 : l ≤ r) (h2 : r ≤ zs.length) :
    ∃ v', (∀ w', (Instr.slice 22 v (some (.int .i64 (l : Int))) (some (.int .i64 (r : Int))) none).run Try.prog w' = .ok v' w') ∧ Rd k w v' ((zs.drop l).take (r - l)) := by
  obtain ⟨a, cap, rfl, hc, hm, hn, hx⟩ := h
  have e5 : Try.prog.elem 22 = 5 := by kernel_rfl
  have hu : Try.prog.underlying 22 = some (.slice (Try.prog.elem 22)) := by rw [e5]; exact Try.underlying22
  have hlen : ((zs.drop l).take (r - l)).length = r - l := by simp; omega
  refine ⟨sliced a l r cap 1, fun w' => ?_, ?_⟩
  · rw [run_slice_lh w' 22 a zs.length cap hu .i64 .i64 (l : Int) (r : Int) (by omega) (by omega) (by omega), e5, hz]
    simp [Result.andThen]
  · refine ⟨if cap = l then a else a.map (·.add (l * 1)), cap - l, by rw [hlen]; rfl, by rw [hlen]; omega, by omega, ?_, ?_⟩
    · intro h
      cases a with
      | none => have := hn rfl; omega
      | some x => split at h <;> simp at h
    · rw [hlen]
      by_cases h0 : r - l = 0
      · exact .inl h0
      · rcases hx with h | ⟨b, o, rfl, hx⟩
        · omega
        refine .inr ⟨b, o + l, ?_, fun i hi => ?_⟩
        · rw [if_neg (by omega), Nat.mul_one, Option.map_some, Addr.add_lit]
        · have := hx (l + i) (by omega)
          rw [Nat.add_assoc, this]
          simp only [List.getD, List.getElem?_take, if_pos hi, List.getElem?_drop]
theorem rd_slice_lo {k : IntKind} {w : World} {v : Value} {zs : List Int} (hz : ∀ w', (sizeOf 5).run Try.prog w' = .ok 1 w') (h : Rd k w v zs) (l : Nat) (h1 : l ≤ zs.length) :
    ∃ v', (∀ w', (Instr.slice 22 v (some (.int .i64 (l : Int))) none none).run Try.prog w' = .ok v' w') ∧ Rd k w v' (zs.drop l) := by
  obtain ⟨v', hr, hrd⟩ := rd_slice hz h l zs.length h1 (Nat.le_refl _)
  refine ⟨v', fun w' => ?_, by rwa [List.take_of_length_le (by simp)] at hrd⟩
  obtain ⟨a, cap, rfl, hc, hm, hn, hx⟩ := h
  have e5 : Try.prog.elem 22 = 5 := by kernel_rfl
  have hu : Try.prog.underlying 22 = some (.slice (Try.prog.elem 22)) := by rw [e5]; exact Try.underlying22
  have hr' := hr w'
  rw [run_slice_lh w' 22 a zs.length cap hu .i64 .i64 (l : Int) (zs.length : Int) (by omega) (by omega) (by omega), e5, hz] at hr'
  rw [run_slice_l w' 22 a zs.length cap hu .i64 (l : Int) (by omega) (by omega), e5, hz]
  simpa [Result.andThen] using hr'
theorem own_slice_hi {w : World} {base : Nat} {v : Value} {xs : List Int} (hz : ∀ w', (sizeOf 5).run Try.prog w' = .ok 1 w') (h : w.ownsRow base 5 1 v xs.length (xs.map (Value.int .u8))) (r : Nat) (h2 : r ≤ xs.length) :
    ∃ v', (∀ w', (Instr.slice 22 v none (some (.int .i64 (r : Int))) none).run Try.prog w' = .ok v' w') ∧ w.ownsRow base 5 1 v' r ((xs.take r).map (Value.int .u8)) ∧ v'.ownBlock = v.ownBlock := by
  have e5 : Try.prog.elem 22 = 5 := by kernel_rfl
  have hu : Try.prog.underlying 22 = some (.slice (Try.prog.elem 22)) := by rw [e5]; exact Try.underlying22
  rcases h.2 with ⟨rfl, h0⟩ | ⟨g, cap, cur, rfl, hb, hg, hc, hm, hs, ht⟩
  · obtain rfl : xs = [] := List.eq_nil_of_length_eq_zero h0
    obtain rfl : r = 0 := by simpa using h2
    refine ⟨.slice none 0 0, fun w' => ?_, World.ownsRow_nil _ _ _ _, rfl⟩
    rw [run_slice_h w' 22 none 0 0 hu .i64 ((0 : Nat) : Int) (by omega) (by omega), e5, hz]
    simp [Result.andThen, sliced]
  · refine ⟨.slice (some ⟨g, 0, none⟩) r cap, fun w' => ?_, by rw [List.map_take]; exact owns_take h h2, rfl⟩
    rw [run_slice_h w' 22 _ _ cap hu .i64 (r : Int) (by omega) (by omega), e5, hz]
    simp [Result.andThen, sliced, Addr.add]

theorem size5 : ∀ w', (sizeOf 5).run Try.prog w' = .ok 1 w' := fun w' => by
  obtain ⟨i0, hi, hz0, hz1, hz2⟩ := info_parts info5
  simp [sizeOf, typeInfo, hi, hz1]


theorem rd_other {k : IntKind} {w w' : World} {v : Value} {zs : List Int} {row : Option Nat} (h : Rd k w v zs) (hg : w.grownBy w' row) (hne : ∀ b, v.ownBlock = some b → some b ≠ row) : Rd k w' v zs := by
  obtain ⟨a, cap, rfl, h1, hm, hn, hx⟩ := h
  refine ⟨a, cap, rfl, h1, hm, hn, hx.elim .inl fun ⟨b, o, h1, h2⟩ => .inr ⟨b, o, h1, fun i hi => hg.cell (h2 i hi) ?_⟩⟩
  subst h1
  exact hne b rfl

theorem owns_grown {w w' : World} {base : Nat} {e : TypeId} {size : Nat} {v : Value} {n : Nat} {xs : List Value} (h : w.ownsRow base e size v n xs) (hg : w.grownBy w' none) : w'.ownsRow base e size v n xs := by
  refine h.kept hg ?_
  cases v.ownBlock <;> simp

/-- What refuseWrites leaves behind dst[:p]. -/
def refuseGo (xs err : List Int) : Nat → List Int → List Int → List Int
  | p, s :: S, e :: E => (xs.drop p).take (s.toNat - p) ++ (err ++ refuseGo xs err e.toNat S E)
  | p, _, _ => xs.drop p

theorem refuseGo_step (xs err : List Int) (p k : Nat) (S E : List Int) (hk : k < S.length) (he : S.length = E.length) :
    refuseGo xs err p (S.drop k) (E.drop k) = (xs.drop p).take ((S.getD k 0).toNat - p) ++ (err ++ refuseGo xs err (E.getD k 0).toNat (S.drop (k + 1)) (E.drop (k + 1))) := by
  have hk' : k < E.length := by omega
  rw [List.drop_eq_getElem_cons hk, List.drop_eq_getElem_cons hk']
  simp only [List.getD, List.getElem?_eq_getElem hk, List.getElem?_eq_getElem hk', Option.getD_some]
  rfl
theorem chain_at {n p : Int} {S E : List Int} {k : Nat} (hk : k < S.length) (he : S.length = E.length) (h : Chain n p (S.drop k) (E.drop k)) :
    p ≤ S.getD k 0 ∧ S.getD k 0 ≤ E.getD k 0 ∧ E.getD k 0 ≤ n ∧ Chain n (E.getD k 0) (S.drop (k + 1)) (E.drop (k + 1)) := by
  have hk' : k < E.length := by omega
  rw [List.drop_eq_getElem_cons hk, List.drop_eq_getElem_cons hk'] at h
  simp only [List.getD, List.getElem?_eq_getElem hk, List.getElem?_eq_getElem hk', Option.getD_some]
  exact h

set_option maxHeartbeats 400000 in
theorem refuse_walk (base : Nat) (v vr vd : Value) (xs : List Int) (f : Nat) (gs cw : Nat) (S E : List Int) (s : ByteArray) (w : World) (hown : w.ownsRow base 5 1 v xs.length (xs.map (Value.int .u8))) (hb : base ≤ w.heap.size)
    (h1 : ∀ w', (Instr.slice 22 v (some (.int .i64 (f : Int))) none none).run Try.prog w' = .ok vr w') (h2 : ∀ w', (Instr.slice 22 v none (some (.int .i64 (f : Int))) none).run Try.prog w' = .ok vd w')
    (hrd : Rd .u8 w vr (xs.drop f)) (hd : w.ownsRow base 5 1 vd f ((xs.take f).map (Value.int .u8))) (hvd : vd.ownBlock = v.ownBlock)
    (hcs : ∀ i, i < S.length → w.cell? ⟨gs, i * 2, none⟩ = some (.int .i64 (S.getD i 0)) ∧ w.cell? ⟨gs, i * 2 + 1, none⟩ = some (.int .i64 (E.getD i 0))) (hgs : v.ownBlock ≠ some gs)
    (hf : f ≤ xs.length) (hxl : xs.length ≤ 1048576) (hle : S.length = E.length) (hsl : S.length ≤ 4096) (hml : s.size ≤ 4096) (hch : Chain xs.length f S E) :
    Calls Try.prog 27 #[v, .int .i64 (f : Int), .slice (some ⟨gs, 0, none⟩) S.length cw, .string s] w fun e w' => ∃ v', e = .returned v' ∧ w'.ownsRow base 5 1 v' (xs.take f ++ refuseGo xs (errI s) f S E).length ((xs.take f ++ refuseGo xs (errI s) f S E).map (Value.int .u8)) ∧ Ext w v w' v' := by
  obtain ⟨i0, hi, hz0, hz1, hz2⟩ := info_parts info5
  have HLE : Hid (S.length = E.length) := hle
  have HVD : Hid (vd.ownBlock = v.ownBlock) := hvd
  clear hle hvd
  go_enter Try.func27, Try.ntmps27
  go_wp2_with (go_at_call 30; refine (sclone_any vr (xs.drop f) w hrd (by simp; omega)).mono ?_; rintro e w1 ⟨vp, rfl, hownp, hgp⟩)
  have hrp : Rd .u8 w1 vp (xs.drop f) := rd_of_owns hownp
  have hd1 : w1.ownsRow base 5 1 vd f ((xs.take f).map (Value.int .u8)) := owns_grown hd hgp
  have HNE : Hid (∀ b, vp.ownBlock = some b → some b ≠ vd.ownBlock) := by
    intro b hb h
    have h1 := (hownp.lt b hb).1
    rw [HVD.out] at h
    have h2 := (hown.lt b h.symm).2
    omega
  clear h1 h2 hrd hd
  go_loopw [0, 10, 23] (fun d q i wr => ∃ (k p : Nat) (done : List Int), k ≤ S.length ∧ i = .int .i64 k ∧ q = .int .i64 p ∧ f ≤ p ∧ p ≤ xs.length ∧ wr.ownsRow base 5 1 d done.length (done.map (Value.int .u8)) ∧ Ext w1 vd wr d ∧
     Hid (done ++ refuseGo xs (errI s) p (S.drop k) (E.drop k) = xs.take f ++ refuseGo xs (errI s) f S E) ∧ Chain xs.length p (S.drop k) (E.drop k) ∧ done.length ≤ p + k * (s.size + 3)) (fun _ _ i _ => S.length - (intOf i).toNat)
  case atStart => exact ⟨0, f, xs.take f, Nat.zero_le _, rfl, rfl, Nat.le_refl _, hf, by rw [List.length_take, Nat.min_eq_left hf]; exact hd1, Ext.refl _ _, by simp [Hid], by simpa using hch, by simp; omega⟩
  case round =>
    obtain ⟨k, p, done, hk, rfl, rfl, hp1, hp2, hown, hE, hout, hch, hdl⟩ := hrel
    by_cases hlt : k < S.length
    · have hne : some gs ≠ vd.ownBlock := by rw [HVD.out]; exact fun h => hgs h.symm
      have g1 := hE.grown.cell (grownBy_cell hgp (hcs k hlt).1) hne
      have g2 := hE.grown.cell (grownBy_cell hgp (hcs k hlt).2) hne
      obtain ⟨c1, c2, c3, c4⟩ := chain_at hlt HLE.out hch
      have hst := refuseGo_step xs (errI s) p k S E hlt HLE.out
      have HO : Hid (done ++ ((xs.drop p).take ((S.getD k 0).toNat - p) ++ (errI s ++ refuseGo xs (errI s) (E.getD k 0).toNat (S.drop (k + 1)) (E.drop (k + 1)))) = xs.take f ++ refuseGo xs (errI s) f S E) := by rw [← hst]; exact hout.out
      clear hcs hst hout hch
      generalize S.getD k 0 = a at *
      generalize E.getD k 0 = t at *
      obtain ⟨a, rfl⟩ := Int.eq_ofNat_of_zero_le (show 0 ≤ a by omega)
      obtain ⟨t, rfl⟩ := Int.eq_ofNat_of_zero_le (show 0 ≤ t by omega)
      simp only [Int.toNat_natCast] at HO
      have hrw : Rd .u8 wr vp (xs.drop f) := rd_other hrp hE.grown HNE.out
      obtain ⟨vs, hs1, hs2⟩ := rd_slice size5 hrw (p - f) (a - f) (by omega) (by simp; omega)
      have e1 : ((p - f : Nat) : Int) = (p : Int) - f := by omega
      have e2 : ((a - f : Nat) : Int) = (a : Int) - f := by omega
      rw [e1, e2] at hs1
      have HE1 : Hid (_ ∧ _) := ⟨e1, e2⟩
      clear e1 e2
      have hsz := hE.grown.size
      have hsz1 := hgp.size
      have hbd : k * (s.size + 3) + (s.size + 3) ≤ 1048576 * 32 := by
        have h1 : (k + 1) * (s.size + 3) ≤ 4096 * (4096 + 3) := Nat.mul_le_mul (by omega) (by omega)
        rw [Nat.succ_mul] at h1
        omega
      have hpe : ((List.drop (p - f) (xs.drop f)).take (a - f - (p - f))) = (xs.drop p).take (a - p) := by
        rw [List.drop_drop]
        congr 1
        · omega
        · congr 1; omega
      have hvl : ((xs.drop p).take (a - p)).length = a - p := by simp; omega
      rw [hpe] at hs2
      clear hpe
      generalize (xs.drop p).take (a - p) = pc at hs2 hvl HO
      have hs3 : Rd .u8 (wr.alloc (Obj.cells #[Value.int IntKind.i64 (a : Int), Value.int IntKind.i64 (t : Int)] 41)) vs pc := rd_grown hs2 (World.grownBy_alloc wr _ none)
      have hsrc := src_any hs3
      have hpl : pc.length ≤ a - p := by omega
      have HVL : Hid (pc.length = a - p) := hvl
      clear hvl hs2 hs3
      have HOB : Hid (∀ (k : Nat), u0.ownBlock = some k → base ≤ k ∧ k < wr.heap.size) := hown.lt
      go_wp2_with (at_builtin; refine wpList_append_src _ rfl (.tmp 27) (.tmp 36) 22 22 rfl base 5 i0 (.int .u8 0) 1 1 Try.underlying22 hi hz0 hz1 hz2 rfl _ done.length _ rfl (hown.alloc _) _ pc.length _ rfl hsrc ?q3 ?q4 ?q5 ?_)
      case q3 => unfold maxLen; omega
      case q4 => omega
      case q5 => simp; omega
      intro v2 w2 hown2 hg2 hlies2
      have E2 : Ext (wr.alloc (Obj.cells #[Value.int IntKind.i64 (a : Int), Value.int IntKind.i64 (t : Int)] 41)) u0 w2 v2 := Ext.app hg2 hlies2 (by simp)
      have hown2' : w2.ownsRow base 5 1 v2 (done ++ pc).length ((done ++ pc).map (Value.int .u8)) := by simpa using hown2
      have hsz2 : wr.heap.size + 1 ≤ w2.heap.size := by have := E2.grown.size; simpa using this
      have hc2 : w2.cell? ⟨wr.heap.size, 1, none⟩ = some (.int .i64 (t : Int)) := E2.grown.cell (by simp) (fun h => Nat.lt_irrefl _ (HOB.out wr.heap.size h.symm).2)
      have hv2 : v2.ownBlock ≠ some wr.heap.size := by
        rcases hlies2 with h | h
        · rw [h]; intro h; have := HOB.out _ h; omega
        · rw [h]; simp
      have HV2 : Hid (v2.ownBlock ≠ some wr.heap.size) := hv2
      clear hown2 hg2 hlies2 hv2
      go_wp2_with (go_at_call 31; refine (err_any base v2 (done ++ pc) s w2 hown2' (by omega) (by simp; omega)).mono ?_; rintro e w3 ⟨v3, rfl, hown3, E3⟩; have hc3 := E3.grown.cell hc2 (fun h => HV2.out h.symm))
      go_roundw
      case rel =>
        refine ⟨k + 1, t, done ++ pc ++ errI s, by omega, by go_num, rfl, by omega, by omega, hown3, ?_, ?_, c4, ?_⟩
        · exact hE.trans (((Ext.keep _ (World.grownBy_alloc wr _ none)).trans E2).trans E3)
        · have := HO.out
          simpa [Hid, List.append_assoc] using this
        · have h1 := HVL.out
          simp only [List.length_append, errI_length, Nat.succ_mul]
          omega
      case measure => simp [intOf]; omega
    · have hrw : Rd .u8 wr vp (xs.drop f) := rd_other hrp hE.grown HNE.out
      obtain ⟨vs, hs1, hs2⟩ := rd_slice_lo size5 hrw (p - f) (by simp; omega)
      have e1 : ((p - f : Nat) : Int) = (p : Int) - f := by omega
      rw [e1] at hs1
      have hpe : List.drop (p - f) (xs.drop f) = xs.drop p := by rw [List.drop_drop]; congr 1; omega
      rw [hpe] at hs2
      clear e1 hpe
      have hbd : k * (s.size + 3) ≤ 1048576 * 32 := by
        have h1 : k * (s.size + 3) ≤ 4096 * (4096 + 3) := Nat.mul_le_mul (by omega) (by omega)
        omega
      have hsz := hE.grown.size
      have hsz1 := hgp.size
      obtain rfl : k = S.length := by omega
      have HO : Hid (done ++ xs.drop p = xs.take f ++ refuseGo xs (errI s) f S E) := by
        have := hout.out
        rw [List.drop_of_length_le (Nat.le_refl _)] at this
        exact this
      clear hout
      have hpl : (xs.drop p).length ≤ 1048576 := by simp; omega
      generalize xs.drop p = pc at hs2 HO hpl
      have hsrc := src_any hs2
      go_wp2_with (at_builtin; refine wpList_append_src _ rfl (.tmp 44) (.tmp 49) 22 22 rfl base 5 i0 (.int .u8 0) 1 1 Try.underlying22 hi hz0 hz1 hz2 rfl _ done.length _ rfl hown _ pc.length _ rfl hsrc ?q3 ?q4 ?q5 ?_)
      case q3 => unfold maxLen; omega
      case q4 => omega
      case q5 => omega
      intro v2 w2 hown2 hg2 hlies2
      have E2 : Ext wr u0 w2 v2 := Ext.app hg2 hlies2 (Nat.le_refl _)
      go_wp2
      go_ret
      refine ⟨v2, rfl, ?_, ?_⟩
      · rw [← HO.out]
        simpa using hown2
      · exact ((Ext.keep _ hgp).same HVD.out).trans (hE.trans E2)
end Go.Proofs.Qxb6600684a
