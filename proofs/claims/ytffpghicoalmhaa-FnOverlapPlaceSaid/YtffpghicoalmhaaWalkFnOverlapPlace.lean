/- FnOverlapPlace: intervals with a place in common are told to overlap, for all bounds that the statement speaks of; no further condition. The law over numbers, and the call. -/
import Derived.Test.YtffpghicoalmhaaPFnOverlapPlacex1
import Derived.Test.YtffpghicoalmhaaKit
namespace Go.Proofs.Ytffpghicoalmhaa.PFnOverlapPlace
open Go.RowKit Go.Proofs.YtffpghicoalmhaaW.PrintWords Go.Proofs.YtffpghicoalmhaaW.PrintLast Go.Proofs.Ytffpghicoalmhaa.Kit
theorem works : laws_ivWorks.f = some true := by decide +kernel
theorem some_any (a b : Int) : spec_Some.f a b = some (decide (a < b ∧ -2305843009213693952 ≤ a ∧ b ≤ 2305843009213693952)) := by
  unfold spec_Some.f
  by_cases h : a < b
  · rw [if_pos h]
    by_cases h1 : a ≥ -2305843009213693952
    · rw [if_pos h1]; exact some_dec (by omega)
    · rw [if_neg h1]; exact some_no (by omega)
  · rw [if_neg h]; exact some_no (by omega)
theorem has_any (a b x : Int) : spec_Has.f a b x = some (decide (a ≤ x ∧ x < b)) := by
  unfold spec_Has.f
  by_cases h : a ≤ x
  · rw [if_pos h]; exact some_dec (by omega)
  · rw [if_neg h]; exact some_no (by omega)
theorem over_any (a b c d : Int) (ha : -2305843009213693952 ≤ a) (hb : b ≤ 2305843009213693952) (hc : -2305843009213693952 ≤ c) (hd : d ≤ 2305843009213693952) (hab : a < b) (hcd : c < d) :
    impl_Overlap.f a b c d = some (decide (a < d ∧ c < b)) := by
  unfold impl_Overlap.f intervals_NewInterval.f intervals_Interval_Overlaps.f intervals_imin.f intervals_imax.f
  rw [Option.bind_some, Option.bind_some]
  have e1 : (if b < d then some b else some d) = some (if b < d then b else d) := by split <;> rfl
  have e2 : (if a > c then some a else some c) = some (if a > c then a else c) := by split <;> rfl
  rw [e1, e2, Option.bind_some, Option.bind_some]
  refine some_dec ?_
  have : wrap64 ((if b < d then b else d) - (if a > c then a else c)) = (if b < d then b else d) - (if a > c then a else c) := by
    split <;> split <;> exact w64 (by omega) (by omega)
  rw [this]
  split <;> split <;> omega
theorem law_any (a b c d x : Int) : laws_FnOverlapPlace.f a b c d x = some true := by
  unfold laws_FnOverlapPlace.f
  rw [works, Option.bind_some, if_pos rfl, some_any, Option.bind_some]
  by_cases h1 : a < b ∧ -2305843009213693952 ≤ a ∧ b ≤ 2305843009213693952
  · rw [if_pos (decide_eq_true h1), some_any, Option.bind_some]
    by_cases h2 : c < d ∧ -2305843009213693952 ≤ c ∧ d ≤ 2305843009213693952
    · rw [if_pos (decide_eq_true h2), has_any, Option.bind_some]
      by_cases h3 : a ≤ x ∧ x < b
      · rw [if_pos (decide_eq_true h3), has_any, Option.bind_some]
        by_cases h4 : c ≤ x ∧ x < d
        · rw [if_pos (decide_eq_true h4), over_any a b c d h1.2.1 h1.2.2 h2.2.1 h2.2.2 h1.1 h2.1, Option.bind_some]
          exact (some_yes (by omega)).symm
        · rw [if_neg (by simpa using h4)]
      · rw [if_neg (by simpa using h3)]
    · rw [if_neg (by simpa using h2)]
  · rw [if_neg (by simpa using h1)]
theorem walk (a b c d x : Int) (W : World) (_ : (Lit.int .i64 a).wf = true) (_ : (Lit.int .i64 b).wf = true) (_ : (Lit.int .i64 c).wf = true) (_ : (Lit.int .i64 d).wf = true) (_ : (Lit.int .i64 x).wf = true) :
    Calls Try.prog 11 #[.agg #[.int .i64 a, .int .i64 b], .agg #[.int .i64 c, .int .i64 d], .int .i64 x] W fun e W' => e = .returned (.bool true) ∧ Below W.heap.size W W' :=
  laws_FnOverlapPlace.calls a b c d x true W (law_any a b c d x)
end Go.Proofs.Ytffpghicoalmhaa.PFnOverlapPlace
