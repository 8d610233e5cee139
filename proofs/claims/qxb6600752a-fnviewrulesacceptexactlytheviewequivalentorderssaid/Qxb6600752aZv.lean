import Derived.Test.Qxb6600752aVr
namespace Go.Proofs.Qxb6600752a
open Go.RowKit Go.Maps

theorem zzvr_any (H base Bm : Nat) (vt : Value) (ae : Option Addr) (ce gt : Nat) (ct : Nat) (ts : List Int) (es : List (Int × Nat × ByteArray)) (cm : Int → Bool) (w : World) (hS : Hs w H base Bm es.length vt (.slice ae es.length ce) es cm) (hT : IRow w (some ⟨gt, 0, none⟩) ts)
    (hn : ts.length ≤ 64) (hm : es.length ≤ 4096) (hd : ts.Nodup) (hz : ∀ z ∈ ts, (Lit.int .i64 z).wf = true) (xi : Nat → Nat) (hE : ∀ i e, es[i]? = some e → xi i < ts.length ∧ e.1 = ts.getD (xi i) 0 ∧ e.2.1 < 4 ∧ e.2.2.size ≤ maxLen) :
    Calls Try.prog 25 #[.pointer (some ⟨H, 0, none⟩), .slice (some ⟨gt, 0, none⟩) ts.length ct] w (VrOut w ts es cm xi) := by
  go_enter Try.func25, Try.ntmps25
  go_wp2_with fail
  refine (vr_any H base Bm vt ae ce gt ct ts es cm w hS hT hn hm hd hz xi hE).mono ?_
  rintro e w' ⟨hg, hO⟩
  rcases hO with ⟨ho, rfl⟩ | ⟨S, bf, left, R, gb, gt, bb, vs, h1, h2, h3, h4, h5, rfl, h6⟩
  · go_wp2
    go_ret2
    exact ⟨hg, .inl ⟨ho, rfl⟩⟩
  · go_wp2
    go_ret2
    exact ⟨hg, .inr ⟨S, bf, left, R, gb, gt, bb, vs, h1, h2, h3, h4, h5, rfl, h6⟩⟩
end Go.Proofs.Qxb6600752a
