/- FnBounds: the bounds of an interval are those it is made with, for all bounds; no condition. The law over numbers, and the call. -/
import Derived.Test.YtffpghicoalmhaaPFnBoundsx1
import Derived.Test.YtffpghicoalmhaaKit
namespace Go.Proofs.Ytffpghicoalmhaa.PFnBounds
open Go.RowKit Go.Proofs.YtffpghicoalmhaaW.PrintWords Go.Proofs.YtffpghicoalmhaaW.PrintLast Go.Proofs.Ytffpghicoalmhaa.Kit
theorem works : laws_ivWorks.f = some true := by decide +kernel
theorem law_any (a b : Int) : laws_FnBounds.f a b = some true := by
  unfold laws_FnBounds.f impl_Bounds.f intervals_NewInterval.f intervals_Interval_Bounds.f
  rw [works, Option.bind_some, Option.bind_some, Option.bind_some, if_pos rfl, if_pos rfl]; rfl
theorem walk (a b : Int) (W : World) (_ : (Lit.int .i64 a).wf = true) (_ : (Lit.int .i64 b).wf = true) :
    Calls Try.prog 13 #[.agg #[.int .i64 a, .int .i64 b]] W fun e W' => e = .returned (.bool true) ∧ Below W.heap.size W W' :=
  laws_FnBounds.calls a b true W (law_any a b)
end Go.Proofs.Ytffpghicoalmhaa.PFnBounds
