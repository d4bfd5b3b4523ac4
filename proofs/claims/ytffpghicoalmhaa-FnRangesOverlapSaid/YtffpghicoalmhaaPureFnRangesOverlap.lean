/- FnRangesOverlap over numbers: ranges of at least one place are told to overlap exactly if they have one in common; no condition beyond the arguments being of their type. -/
import Derived.Test.YtffpghicoalmhaaPFnRangesOverlapx1
import Derived.Test.YtffpghicoalmhaaKit
namespace Go.Proofs.Ytffpghicoalmhaa.Pure
open Go.RowKit Go.Proofs.Ytffpghicoalmhaa.PFnRangesOverlap Go.Proofs.YtffpghicoalmhaaW.PrintWords Go.Proofs.YtffpghicoalmhaaW.PrintLast Go.Proofs.Ytffpghicoalmhaa.Kit
theorem over_any (p m q n : Int) (hp : 0 ≤ p ∧ p < 1099511627776) (hm : 0 ≤ m ∧ m < 1099511627776) (hq : 0 ≤ q ∧ q < 1099511627776) (hn : 0 ≤ n ∧ n < 1099511627776) :
    impl_RangesOverlap.f 5 p (1 + m) q (1 + n) = some (decide (p < q + (1 + n) ∧ q < p + (1 + m))) := by
  unfold impl_RangesOverlap.f ssarewrite_ZZOverlap.f ssarewrite_overlap.f
  simp only [Option.bind_fun_some, ssarewrite_overlap.j0]
  rw [w64 (z := q + (1 + n)) (by omega) (by omega), w64 (z := p + (1 + m)) (by omega) (by omega)]
  by_cases h1 : p ≥ q
  · rw [if_pos h1]
    by_cases h2 : q + (1 + n) > p
    · rw [if_pos (by simpa using h2)]; exact some_yes (by omega)
    · rw [if_neg (by simpa using h2)]
      by_cases h3 : q ≥ p
      · rw [if_pos h3]; split
        · omega
        · exact some_no (by omega)
      · rw [if_neg h3]; exact some_no (by omega)
  · rw [if_neg h1, if_neg (by simp), if_pos (by omega)]
    split
    · exact some_yes (by omega)
    · exact some_no (by omega)
theorem FnRangesOverlap : laws_FnRangesOverlap.Pure := by
  intro a b c d _ _ _ _
  refine ⟨5, ?_⟩
  have h0 : impl_RangesOverlap.f 5 1 2 2 3 = some true := over_any 1 1 2 2 (by decide) (by decide) (by decide) (by decide)
  have r : ∀ x, laws_rwAt.f x 1099511627776 = some (x % 1099511627776) := by
    intro x; unfold laws_rwAt.f; rw [if_neg (by decide), rw_at x _ (by decide) (by decide)]
  unfold laws_FnRangesOverlap.f
  rw [r, r, r, r, h0]
  simp only [Option.bind_some]
  have b0 := Int.emod_nonneg a (b := 1099511627776) (by omega)
  have b1 := Int.emod_lt_of_pos a (b := 1099511627776) (by omega)
  have b2 := Int.emod_nonneg b (b := 1099511627776) (by omega)
  have b3 := Int.emod_lt_of_pos b (b := 1099511627776) (by omega)
  have b4 := Int.emod_nonneg c (b := 1099511627776) (by omega)
  have b5 := Int.emod_lt_of_pos c (b := 1099511627776) (by omega)
  have b6 := Int.emod_nonneg d (b := 1099511627776) (by omega)
  have b7 := Int.emod_lt_of_pos d (b := 1099511627776) (by omega)
  generalize a % 1099511627776 = p at *
  generalize b % 1099511627776 = m at *
  generalize c % 1099511627776 = q at *
  generalize d % 1099511627776 = n at *
  rw [w64 (z := 1 + m) (by omega) (by omega), w64 (z := 1 + n) (by omega) (by omega), over_any p m q n ⟨b0, b1⟩ ⟨b2, b3⟩ ⟨b4, b5⟩ ⟨b6, b7⟩]
  rw [w64 (z := p + (1 + m)) (by omega) (by omega), w64 (z := q + (1 + n)) (by omega) (by omega)]
  simp only [Option.bind_some]
  have e : decide (p < q + (1 + n) ∧ q < p + (1 + m)) = decide (Go.Proofs.YtffpghicoalmhaaW.PrintWords.mx p q < Go.Proofs.YtffpghicoalmhaaW.PrintWords.mn (p + (1 + m)) (q + (1 + n))) := by
    rw [decide_eq_decide]; unfold mx mn; omega
  rw [e]
  simp
end Go.Proofs.Ytffpghicoalmhaa.Pure
