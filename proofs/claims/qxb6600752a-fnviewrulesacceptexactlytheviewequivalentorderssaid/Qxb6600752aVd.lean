import Derived.Test.Qxb6600752aVc
namespace Go.Proofs.Qxb6600752a
open Go.RowKit Go.Maps

theorem rdAll_sm (S : VS) (n : Nat) (bt : List (List (Nat × Nat))) : ∀ (rs : List Rd) (bf : List Nat), Sm bf → (∀ r ∈ rs, r.2.1 < bf.length ∧ r.1.1 < 64) → Sm (rdAll S n bf bt rs).1 := by
  suffices h : ∀ (rs : List Rd) (q : List Nat × List (List (Nat × Nat))), Sm q.1 → (∀ r ∈ rs, r.2.1 < q.1.length ∧ r.1.1 < 64) → Sm (rs.foldl (fun q r => (rdBf q.1 r, btIn S r q.2 n)) q).1 from fun rs bf h1 h2 => h rs (bf, bt) h1 h2
  intro rs
  induction rs with
  | nil => intro q h _; exact h
  | cons r rs ih =>
    intro q h hq
    have hr := hq r (by simp)
    refine ih _ (sm_set h hr.1 (or_lt (h _) (pow_lt64 hr.2))) (fun r' h' => ?_)
    simp only [rdBf, List.length_set]
    exact hq r' (by simp [h'])
theorem setB_eq (a x : Nat) : setB a x = a ||| 2 ^ x := rfl
end Go.Proofs.Qxb6600752a
