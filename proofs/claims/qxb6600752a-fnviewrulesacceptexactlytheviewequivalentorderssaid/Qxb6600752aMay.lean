import Derived.Test.Qxb6600752aShape
import Derived.Test.Qxb6600752aBits
namespace Go.Proofs.Qxb6600752a
open Go.RowKit Go.Maps

def okPair (pl : Nat) (p : Nat × Nat) : Bool := !((pl &&& p.1 != 0) && (pl &&& p.2 == 0))
def mayP (b : Nat) (ps : List (Nat × Nat)) (pl : Nat) : Bool := (andN b pl == 0) && ps.all (okPair pl)
/-- The cells of a slice of pairs of words. -/
abbrev QRow (w : World) (a : Option Addr) (ps : List (Nat × Nat)) : Prop := ps.length = 0 ∨ ∃ b, a = some ⟨b, 0, none⟩ ∧ ∀ i, (h : i < ps.length) → w.cell? ⟨b, i * 2, none⟩ = some (.int .u64 (ps[i].1 : Int)) ∧ w.cell? ⟨b, i * 2 + 1, none⟩ = some (.int .u64 (ps[i].2 : Int))

set_option maxRecDepth 6000 in
set_option maxHeartbeats 1000000 in
theorem may_any (R gb gt n cb ct x pl b c : Nat) (a : Option Addr) (ps : List (Nat × Nat)) (w : World) (hx : x < n) (hl : ps.length ≤ 1048576)
    (r0 : w.cell? ⟨R, 0, none⟩ = some (.slice (some ⟨gb, 0, none⟩) n cb)) (r1 : w.cell? ⟨R, 1, none⟩ = some (.slice (some ⟨gt, 0, none⟩) n ct))
    (h0 : w.cell? ⟨gb, x, none⟩ = some (.int .u64 (b : Int))) (h1 : w.cell? ⟨gt, x, none⟩ = some (.slice a ps.length c)) (hp : QRow w a ps)
    (hb : b < 18446744073709551616) (hpl : pl < 18446744073709551616) (hps : ∀ p ∈ ps, p.1 < 18446744073709551616 ∧ p.2 < 18446744073709551616) :
    Calls Try.prog 39 #[.pointer (some ⟨R, 0, none⟩), .int .i64 (x : Int), .int .u64 (pl : Int)] w (RetB fun r w' => r = mayP b ps pl ∧ w.grownBy w' none) := by
  have ha := andN_bits hb hpl
  have hx0 : (0 : Int) ≤ (x : Int) := by omega
  have hx1 : (x : Int) < (n : Int) := by omega
  by_cases hz : andN b pl = 0
  case neg =>
    have hz2 : ((andN b pl : Nat) : Int) ≠ 0 := by omega
    have hz3 : (((andN b pl : Nat) : Int) != 0) = true := by simpa using hz
    have HZ : Hid (¬ andN b pl = 0) := hz
    clear hz
    generalize andN b pl = v at ha hz2 hz3
    go_enter Try.func39, Try.ntmps39
    go_wp2
    go_ret
    refine retB false ⟨?_, World.grownBy.refl _ _⟩
    simp [mayP, HZ.out]
  case pos =>
    rw [hz] at ha
    go_enter Try.func39, Try.ntmps39
    have HZ : Hid (andN b pl = 0) := hz
    clear hz hb
    go_wp2
    go_loopg [27] ps.length (fun g si wr => ∃ k : Nat, k ≤ ps.length ∧ g = ps.length - k ∧ si = .int .i64 k ∧ w.grownBy wr none ∧ Hid ((ps.take k).all (okPair pl) = true))
    case atStart => exact ⟨0, Nat.zero_le _, rfl, rfl, World.grownBy.refl _ _, rfl⟩
    case round =>
      obtain ⟨k, hk, hgk, rfl, hg, hS⟩ := hrel
      by_cases hlt : k < ps.length
      · rcases hp with h | ⟨g, rfl, hc⟩
        · omega
        have q0 := grownBy_cell hg (hc k hlt).1
        have q1 := grownBy_cell hg (hc k hlt).2
        have hbd := hps _ (List.getElem_mem hlt)
        have HP : Hid (ps.take (k + 1) = ps.take k ++ [ps[k]]) := List.take_succ_eq_append_getElem hlt
        have HM : Hid (ps[k] ∈ ps) := List.getElem_mem hlt
        generalize ps[k] = p at *
        have e1 := bits_and_u64_nat pl p.1 hpl hbd.1
        have e2 := bits_and_u64_nat pl p.2 hpl hbd.2
        have HO : Hid (okPair pl p = !((pl &&& p.1 != 0) && (pl &&& p.2 == 0))) := rfl
        generalize pl &&& p.1 = v1 at *
        generalize pl &&& p.2 = v2 at *
        generalize p.1 = p1 at *
        generalize p.2 = p2 at *
        have hki : (0 : Int) ≤ (k : Int) := by omega
        have hkp : (k : Int) < (ps.length : Int) := by omega
        clear hc hps hbd
        by_cases hv1 : v1 = 0
        · subst hv1
          have HQ : Hid (okPair pl p = true) := by rw [show okPair pl p = _ from HO.out]; rfl
          clear HO
          go_wp2
          go_roundg (ps.length - (k + 1))
          case measure => omega
          case rel => exact ⟨k + 1, by omega, rfl, by go_num, grown_alloc hg _, by show _ = _; rw [HP.out, List.all_append, hS.out]; simpa using HQ.out⟩
        · have n1 : ((v1 : Int) != 0) = true := by simpa using hv1
          have n1' : ¬ (v1 : Int) = 0 := by omega
          by_cases hv2 : v2 = 0
          · subst hv2
            have HQ : Hid (okPair pl p = false) := by
              show _ = _
              rw [show okPair pl p = _ from HO.out]
              simpa using hv1
            clear HO hv1
            go_wp2
            go_ret
            refine retB false ⟨?_, grown_alloc hg _⟩
            have : ps.all (okPair pl) = false := by
              rw [List.all_eq_false]
              exact ⟨p, HM.out, by rw [HQ.out]; simp⟩
            simp [mayP, this]
          · have n2 : ((v2 : Int) == 0) = false := by simpa using hv2
            have n2' : ¬ (v2 : Int) = 0 := by omega
            have HQ : Hid (okPair pl p = true) := by
              show _ = _
              rw [show okPair pl p = _ from HO.out]
              simp [hv2]
            clear HO hv1 hv2
            go_wp2
            go_roundg (ps.length - (k + 1))
            case measure => omega
            case rel => exact ⟨k + 1, by omega, rfl, by go_num, grown_alloc hg _, by show _ = _; rw [HP.out, List.all_append, hS.out]; simpa using HQ.out⟩
      · go_wp2
        go_ret
        have : k = ps.length := by omega
        subst this
        refine retB true ⟨?_, hg⟩
        have h2 := hS.out
        rw [List.take_length] at h2
        simp [mayP, HZ.out, h2]

set_option maxHeartbeats 400000 in
theorem zzmay_any (R gb gt n cb ct x pl b c : Nat) (a : Option Addr) (ps : List (Nat × Nat)) (w : World) (hx : x < n) (hl : ps.length ≤ 1048576)
    (r0 : w.cell? ⟨R, 0, none⟩ = some (.slice (some ⟨gb, 0, none⟩) n cb)) (r1 : w.cell? ⟨R, 1, none⟩ = some (.slice (some ⟨gt, 0, none⟩) n ct))
    (h0 : w.cell? ⟨gb, x, none⟩ = some (.int .u64 (b : Int))) (h1 : w.cell? ⟨gt, x, none⟩ = some (.slice a ps.length c)) (hp : QRow w a ps)
    (hb : b < 18446744073709551616) (hpl : pl < 18446744073709551616) (hps : ∀ p ∈ ps, p.1 < 18446744073709551616 ∧ p.2 < 18446744073709551616) :
    Calls Try.prog 27 #[.pointer (some ⟨R, 0, none⟩), .int .i64 (x : Int), .int .u64 (pl : Int)] w (RetB fun r w' => r = mayP b ps pl ∧ w.grownBy w' none) := by
  have P := may_any R gb gt n cb ct x pl b c a ps w hx hl r0 r1 h0 h1 hp hb hpl hps
  clear r0 r1 h0 h1 hp hps
  go_enter Try.func27, Try.ntmps27
  go_wp2_with (go_at_call 39; refine P.mono ?_; rintro e w' ⟨r, rfl, hr⟩)
  go_ret
  exact retB (mayP b ps pl) ⟨rfl, hr.2⟩
end Go.Proofs.Qxb6600752a
