/- FnAddBits64: the four flags behind a sum of two int64 are the sign, zero, the carry and signed overflow; no condition. The facts on numbers, and the walk of the law. -/
import Derived.Test.YtdchpmohaiiicaaFlAdd64
set_option linter.unusedSimpArgs false
set_option linter.unusedVariables false
namespace Go.Proofs.Ytdchpmohaiiicaa.Fl
open Go.RowKit Go.Proofs.YtdchpmohaiiicaaW.PrintWords Go.Proofs.YtdchpmohaiiicaaW.PrintLast Go.Proofs.Ytdchpmohaiiicaa.Kit Go.Proofs.Ytdchpmohaiiicaa.PFnSubFlags32
theorem c8b (a b : Int) (w : World) (ha : (Lit.int .i64 a).wf = true) (hb : (Lit.int .i64 b).wf = true) :
    Calls Try.prog 8 #[.int .i64 a, .int .i64 b] w fun e w' => e = .returned (.agg #[.bool (decide (wrap64 (a + b) < 0)), .bool (wrap64 (a + b) == 0), .bool (decide (IntKind.u64.wrap (wrap64 (a + b)) < IntKind.u64.wrap a)), .bool (decide (0 ≤ b) != decide (a ≤ wrap64 (a + b))), .bool (add64Z a b), .bool (!(add64Z a b)), .bool ((add64N a b) != (add64V a b)), .bool ((add64Z a b) || ((add64N a b) != (add64V a b))), .bool (!(add64Z a b) && ((add64N a b) == (add64V a b))), .bool ((add64N a b) == (add64V a b)), .bool (!(add64C a b)), .bool ((add64Z a b) || !(add64C a b)), .bool (!(add64Z a b) && (add64C a b)), .bool (add64C a b), .bool (((add64N a b) != (add64V a b)) && !(add64V a b)), .bool (((add64Z a b) || ((add64N a b) != (add64V a b))) && !(add64V a b)), .bool ((!(add64Z a b) && ((add64N a b) == (add64V a b))) && !(add64V a b)), .bool (((add64N a b) == (add64V a b)) && !(add64V a b))]) ∧ Below w.heap.size w w' := by
  obtain ⟨ha0, ha1⟩ := wfi64 ha
  obtain ⟨hb0, hb1⟩ := wfi64 hb
  have eN : (add64N a b) = (decide (wrap64 (a + b) < 0)) := by
    rfl
  have eZ : (add64Z a b) = (wrap64 (a + b) == 0) := by
    rfl
  have eC : (add64C a b) = (decide (IntKind.u64.wrap (wrap64 (a + b)) < IntKind.u64.wrap a)) := by
    rfl
  have eV : (add64V a b) = (decide (0 ≤ b) != decide (a ≤ wrap64 (a + b))) := by
    unfold add64V wrap64; rw [Bool.eq_iff_iff]; simp only [decide_eq_true_eq, bne_iff_ne, ne_eq, beq_iff_eq, Bool.or_eq_true, Bool.and_eq_true, Bool.not_eq_true', decide_eq_decide, decide_eq_false_iff_not, beq_eq_false_iff_ne, Bool.not_eq_eq_eq_not, Bool.not_true]; omega
  refine (c8 a b w).mono ?_
  rintro e w' ⟨rfl, hb⟩
  exact ⟨by rw [eN, eZ, eC, eV], hb⟩
theorem ne_ne (x y : Int) : ¬ (x != y) = (x == y) := by cases h : (x == y) <;> simp [bne, h]
set_option maxHeartbeats 4000000 in
set_option maxRecDepth 100000 in
theorem FnAddBits64_walk (a b : Int) (W : World) (w0 : (Lit.int .i64 a).wf = true) (w1 : (Lit.int .i64 b).wf = true) :
    Calls Try.prog 3 #[.int .i64 a, .int .i64 b] W fun e W' => e = .returned (.bool true) ∧ Below W.heap.size W W' := by
  go_enter Try.func3, Try.ntmps3
  go_wp2_with (first | (go_at_call 8; refine (c8b _ _ _ w0 w1).mono ?_; rintro e w1 ⟨rfl, hb⟩))
  go_ret
  exact ⟨by first | (simp; done) | (simp; exact ne_ne _ _), by first | exact (hb.trans ((Below.refl _ _).alloc hb.size _)) | exact (hb.alloc hb.size _)⟩
end Go.Proofs.Ytdchpmohaiiicaa.Fl
