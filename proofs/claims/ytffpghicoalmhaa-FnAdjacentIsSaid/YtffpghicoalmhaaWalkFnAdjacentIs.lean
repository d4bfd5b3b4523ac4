/- FnAdjacentIs: intervals are told to be adjacent exactly if one starts where the other one ends, for all bounds; no condition. The law over numbers, and the call. -/
import Derived.Test.YtffpghicoalmhaaPFnAdjacentIsx2
import Derived.Test.YtffpghicoalmhaaKit
namespace Go.Proofs.Ytffpghicoalmhaa.PFnAdjacentIs
open Go.RowKit Go.Proofs.YtffpghicoalmhaaW.PrintWords Go.Proofs.YtffpghicoalmhaaW.PrintLast Go.Proofs.Ytffpghicoalmhaa.Kit
theorem adj_any (a b c d : Int) : impl_Adjacent.f a b c d = some (decide (b = c ∨ d = a)) := by
  unfold impl_Adjacent.f intervals_NewInterval.f intervals_Interval_Adjacent.f intervals_Interval_adjacent.f
  rw [Option.bind_some, Option.bind_some]
  by_cases h : b = c
  · rw [if_pos h]; exact some_yes (.inl h)
  · rw [if_neg h]
    refine congrArg some ?_
    rw [Bool.eq_iff_iff, beq_iff_eq, decide_eq_true_eq]
    omega
theorem law_any (a b c d : Int) : laws_FnAdjacentIs.f a b c d = some true := by
  have h0 : impl_Adjacent.f 1 2 2 4 = some true := by rw [adj_any]; decide
  unfold laws_FnAdjacentIs.f
  rw [h0, adj_any, Option.bind_some]
  by_cases h : a = d
  · rw [if_pos h, if_pos (by simp; omega)]; rfl
  · rw [if_neg h, if_pos (by rw [beq_iff_eq, Bool.eq_iff_iff, beq_iff_eq, decide_eq_true_eq]; omega)]; rfl
theorem walk (a b c d : Int) (W : World) (_ : (Lit.int .i64 a).wf = true) (_ : (Lit.int .i64 b).wf = true) (_ : (Lit.int .i64 c).wf = true) (_ : (Lit.int .i64 d).wf = true) :
    Calls Try.prog 3 #[.agg #[.int .i64 a, .int .i64 b], .agg #[.int .i64 c, .int .i64 d]] W fun e W' => e = .returned (.bool true) ∧ Below W.heap.size W W' :=
  laws_FnAdjacentIs.calls a b c d true W (law_any a b c d)
end Go.Proofs.Ytffpghicoalmhaa.PFnAdjacentIs
