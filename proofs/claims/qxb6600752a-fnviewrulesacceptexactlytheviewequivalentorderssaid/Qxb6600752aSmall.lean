import Derived.Test.Qxb6600752aSize
namespace Go.Proofs.Qxb6600752a
open Go.RowKit Go.Maps

theorem info4 : (Try.prog.info? 4).map (fun i => (i.zero, i.size, i.bytes)) = some (some (.bool false), 1, 1) := by kernel_rfl
theorem info44 : (Try.prog.info? 44).map (fun i => (i.zero, i.size, i.bytes)) = some (some (.int .i64 0), 1, 8) := by kernel_rfl

/-- The cells of a slice of bytes, of numbers. -/
abbrev URow (w : World) (a : Option Addr) (us : List Nat) : Prop := us.length = 0 ∨ ∃ b o, a = some ⟨b, o, none⟩ ∧ ∀ i, (h : i < us.length) → w.cell? ⟨b, o + i, none⟩ = some (.int .u8 (us[i] : Int))
abbrev IRow (w : World) (a : Option Addr) (zs : List Int) : Prop := zs.length = 0 ∨ ∃ b o, a = some ⟨b, o, none⟩ ∧ ∀ i, (h : i < zs.length) → w.cell? ⟨b, o + i, none⟩ = some (.int .i64 zs[i])
theorem URow.grown {w w' : World} {a : Option Addr} {us : List Nat} (h : URow w a us) (g : w.grownBy w' none) : URow w' a us := h.imp id fun ⟨b, o, e, hc⟩ => ⟨b, o, e, fun i hi => grownBy_cell g (hc i hi)⟩
theorem IRow.grown {w w' : World} {a : Option Addr} {us : List Int} (h : IRow w a us) (g : w.grownBy w' none) : IRow w' a us := h.imp id fun ⟨b, o, e, hc⟩ => ⟨b, o, e, fun i hi => grownBy_cell g (hc i hi)⟩
theorem SRow.grown {w w' : World} {a : Option Addr} {us : List ByteArray} (h : SRow w a us) (g : w.grownBy w' none) : SRow w' a us := h.imp id fun ⟨b, o, e, hc⟩ => ⟨b, o, e, fun i hi => grownBy_cell g (hc i hi)⟩

set_option maxHeartbeats 400000 in
theorem txn_any (a0 : Option Addr) (n c0 b o len c1 i u : Nat) (w : World) (h : w.cell? ⟨b, o + i, none⟩ = some (.int .u8 (u : Int))) (hu : u < 256) (hi : i < len) (_ : len ≤ 1048576) (hn : 0 < n) (hnl : n ≤ 1048576) :
    Calls Try.prog 15 #[.slice a0 n c0, .slice (some ⟨b, o, none⟩) len c1, .int .i64 (i : Int)] w fun e w' => e = .returned (.int .i64 ((u % n : Nat) : Int)) ∧ w' = w := by
  have hr : ((u : Int)).tmod (n : Int) = ((u % n : Nat) : Int) := by rw [Int.tmod_eq_emod_of_nonneg (by omega)]; norm_cast
  have hx : u % n < n := Nat.mod_lt _ hn
  generalize u % n = x at hr hx
  have hn0 : ¬ n = 0 := by omega
  have hi0 : (0 : Int) ≤ (i : Int) := by omega
  have hi1 : (i : Int) < (len : Int) := by omega
  go_enter Try.func15, Try.ntmps15
  go_wp2
  go_ret
  exact ⟨rfl, rfl⟩

/-- Who commits, after k events. -/
def comStep (n : Nat) (ev ac : List Nat) (c : List Bool) (i : Nat) : List Bool :=
  if ac.getD i 0 % 4 = 2 then c.set (ev.getD i 0 % n) true else if ac.getD i 0 % 4 = 3 then c.set (ev.getD i 0 % n) false else c
def comTo (n : Nat) (ev ac : List Nat) : Nat → List Bool
  | 0 => List.replicate n false
  | k + 1 => comStep n ev ac (comTo n ev ac k) k
theorem comTo_length (n : Nat) (ev ac : List Nat) : ∀ k, (comTo n ev ac k).length = n
  | 0 => by simp [comTo]
  | k + 1 => by simp only [comTo, comStep]; split <;> (try split) <;> simp [comTo_length n ev ac k]

theorem map_set_bool (c : List Bool) (x : Nat) (b : Bool) : (c.map Value.bool).set x (.bool b) = (c.set x b).map Value.bool := by rw [List.map_set]
theorem map_bool_at (c : List Bool) (x : Nat) (h : x < c.length) : (c.map Value.bool)[x]? = some (.bool (c.getD x false)) := by simp [h]

set_option maxHeartbeats 1000000 in
theorem com_any (a0 a1 a2 : Option Addr) (n c0 c1 c2 : Nat) (ev ac : List Nat) (w : World) (hn : n ≤ 1048576) (hm : ev.length ≤ 1048576) (he : ac.length = ev.length) (hn0 : 0 < ev.length → 0 < n) (h1 : URow w a1 ev) (h2 : URow w a2 ac) (hu1 : ∀ u ∈ ev, u < 256) (hu2 : ∀ u ∈ ac, u < 256) :
    Calls Try.prog 14 #[.slice a0 n c0, .slice a1 ev.length c1, .slice a2 ac.length c2] w fun e w' => ∃ g, e = .returned (.slice (some ⟨g, 0, none⟩) n n) ∧ w'.ownsRow w.heap.size 4 1 (.slice (some ⟨g, 0, none⟩) n n) n ((comTo n ev ac ev.length).map Value.bool) ∧ w.grownBy w' none := by
  obtain ⟨i0, hi, hz0, hz1, hz2⟩ := info_parts info4
  go_enter Try.func14, Try.ntmps14
  go_wp2_with (at_make; refine wpList_make_full _ rfl _ _ 30 rfl w.heap.size 4 i0 (.bool false) 1 Try.underlying30 hi hz0 hz1 _ _ _ _ n rfl rfl rfl rfl ?b1 ?b2 ?b3 ?_)
  case b1 => rw [hz2]; omega
  case b2 => unfold maxLen; omega
  case b3 => exact Nat.le_refl _
  intro w0 hown0 hgrow0
  go_wp2
  go_loopw [8] (fun i wr => ∃ k : Nat, k ≤ ev.length ∧ i = .int .i64 k ∧ wr.ownsRow w.heap.size 4 1 (.slice (some ⟨w.heap.size, 0, none⟩) n n) n ((comTo n ev ac k).map Value.bool) ∧ w.grownBy wr none) (fun i _ => ev.length - (intOf i).toNat)
  case atStart => exact ⟨0, Nat.zero_le _, rfl, by simpa [toList_madeCells_one, Value.cells, comTo] using hown0, hgrow0⟩
  case round =>
    obtain ⟨k, hk, rfl, hown, hg⟩ := hrel
    by_cases hlt : k < ev.length
    · rcases h1 with h0 | ⟨b, o, rfl, hc⟩
      · omega
      rcases h2 with h0 | ⟨b2, o2, rfl, hc2⟩
      · omega
      have hcell := grownBy_cell hg (hc k hlt)
      have hcell2 := grownBy_cell hg (hc2 k (by omega))
      have hb1 := hu1 _ (List.getElem_mem hlt)
      have hb2 := hu2 _ (List.getElem_mem (show k < ac.length by omega))
      have HC : Hid (comTo n ev ac (k + 1) = if ac[k] % 4 = 2 then (comTo n ev ac k).set (ev[k] % n) true else if ac[k] % 4 = 3 then (comTo n ev ac k).set (ev[k] % n) false else comTo n ev ac k) := by
        show _ = _
        simp only [comTo, comStep, List.getD_eq_getElem?_getD, List.getElem?_eq_getElem hlt, List.getElem?_eq_getElem (show k < ac.length by omega), Option.getD_some]
      have hnn := hn0 (by omega)
      have hlen := comTo_length n ev ac k
      have HT := fun (wx : World) (h : wx.cell? ⟨b, o + k, none⟩ = some (.int .u8 (ev[k] : Int))) => txn_any a0 n c0 b o ev.length c1 k ev[k] wx h hb1 hlt hm hnn hn
      have hx : ev[k] % n < n := Nat.mod_lt _ hnn
      generalize ev[k] = u at *
      generalize u % n = x at *
      generalize ac[k] = t at *
      have hr : ((t : Int)).tmod 4 = ((t % 4 : Nat) : Int) := by rw [Int.tmod_eq_emod_of_nonneg (by omega)]; omega
      have hr4 : t % 4 < 4 := Nat.mod_lt _ (by omega)
      generalize t % 4 = r at *
      have hki : (0 : Int) ≤ (k : Int) := by omega
      have hkp : (k : Int) < (ev.length : Int) := by omega
      have hkp2 : (k : Int) < (ac.length : Int) := by omega
      have hxi : (0 : Int) ≤ (x : Int) := by omega
      have hxn : (x : Int) < (n : Int) := by omega
      have hdst : wr.cell? ⟨w.heap.size, x, none⟩ = _ := hown.cellAt x (by omega)
      rw [map_bool_at _ _ (by omega)] at hdst
      have hfz := hown.frozenAt x
      have R1 := hown.stored x (.bool true)
      have R2 := hown.stored x (.bool false)
      rw [map_set_bool] at R1 R2
      have HR : Hid (_ ∧ _ ∧ _) := ⟨R1, R2, hown⟩
      have hz : w.heap.size < wr.heap.size := (hown.lt _ rfl).2
      generalize comTo n ev ac k = cm at *
      clear R1 R2 hc hc2 hown hu1 hu2 hlen
      have hcase : r = 2 ∨ r = 3 ∨ (¬ r = 2 ∧ ¬ r = 3) := by omega
      rcases hcase with rfl | rfl | ⟨hn2, hn3⟩
      · go_wp2_with (go_at_call 15; refine (HT _ (by assumption)).mono ?_; rintro e w' ⟨rfl, rfl⟩)
        go_roundw
        case rel => exact ⟨k + 1, by omega, by go_num, by rw [HC.out]; exact HR.out.1.1, grownBy_trans hg HR.out.1.2 (.inr fun j h => by cases h; exact Nat.le_refl _)⟩
        case measure => simp [intOf]; omega
      · go_wp2_with (go_at_call 15; refine (HT _ (by assumption)).mono ?_; rintro e w' ⟨rfl, rfl⟩)
        go_roundw
        case rel => exact ⟨k + 1, by omega, by go_num, by rw [HC.out]; exact HR.out.2.1.1, grownBy_trans hg HR.out.2.1.2 (.inr fun j h => by cases h; exact Nat.le_refl _)⟩
        case measure => simp [intOf]; omega
      · have hn2' : ((r : Int) == 2) = false := by simp; omega
        have hn3' : ((r : Int) == 3) = false := by simp; omega
        have HN : Hid (_ ∧ _) := And.intro hn2 hn3
        clear hn2 hn3
        go_wp2_with (go_at_call 15; refine (HT _ (by assumption)).mono ?_; rintro e w' ⟨rfl, rfl⟩)
        go_roundw
        case rel => exact ⟨k + 1, by omega, by go_num, by rw [HC.out, if_neg HN.out.1, if_neg HN.out.2]; exact HR.out.2.2, hg⟩
        case measure => simp [intOf]; omega
    · go_wp2
      go_ret
      have : k = ev.length := by omega
      subst this
      exact ⟨_, rfl, hown, hg⟩
end Go.Proofs.Qxb6600752a
