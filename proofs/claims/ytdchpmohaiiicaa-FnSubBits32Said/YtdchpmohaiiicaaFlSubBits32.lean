/- FnSubBits32: the four flags behind a difference of two int32 are the sign, zero, no borrow and signed overflow; no condition. The facts on numbers, and the walk of the law. -/
import Derived.Test.YtdchpmohaiiicaaFlSub32
set_option linter.unusedSimpArgs false
set_option linter.unusedVariables false
namespace Go.Proofs.Ytdchpmohaiiicaa.Fl
open Go.RowKit Go.Proofs.YtdchpmohaiiicaaW.PrintWords Go.Proofs.YtdchpmohaiiicaaW.PrintLast Go.Proofs.Ytdchpmohaiiicaa.Kit Go.Proofs.Ytdchpmohaiiicaa.PFnSubFlags32
theorem c9b (a b : Int) (w : World) (ha : (Lit.int .i32 a).wf = true) (hb : (Lit.int .i32 b).wf = true) :
    Calls Try.prog 9 #[.int .i32 a, .int .i32 b] w fun e w' => e = .returned (.agg #[.bool (decide (wrap32 (a - b) < 0)), .bool (sub32Z a b), .bool (decide (b % 4294967296 ≤ a % 4294967296)), .bool (decide (a < b) != decide (wrap32 (a - b) < 0)), .bool (a == b), .bool (a != b), .bool ((sub32N a b) != (sub32V a b)), .bool ((sub32Z a b) || ((sub32N a b) != (sub32V a b))), .bool (!(sub32Z a b) && ((sub32N a b) == (sub32V a b))), .bool ((sub32N a b) == (sub32V a b)), .bool (!(sub32C a b)), .bool ((sub32Z a b) || !(sub32C a b)), .bool (!(sub32Z a b) && (sub32C a b)), .bool (sub32C a b), .bool (((sub32N a b) != (sub32V a b)) && !(sub32V a b)), .bool (((sub32Z a b) || ((sub32N a b) != (sub32V a b))) && !(sub32V a b)), .bool ((!(sub32Z a b) && ((sub32N a b) == (sub32V a b))) && !(sub32V a b)), .bool (((sub32N a b) == (sub32V a b)) && !(sub32V a b))]) ∧ Below w.heap.size w w' := by
  obtain ⟨ha0, ha1⟩ := wfi32 ha
  obtain ⟨hb0, hb1⟩ := wfi32 hb
  have eN : (sub32N a b) = (decide (wrap32 (a - b) < 0)) := by
    rfl
  have eC : (sub32C a b) = (decide (b % 4294967296 ≤ a % 4294967296)) := by
    rfl
  have eV : (sub32V a b) = (decide (a < b) != decide (wrap32 (a - b) < 0)) := by
    unfold sub32V wrap32; rw [Bool.eq_iff_iff]; simp only [decide_eq_true_eq, bne_iff_ne, ne_eq, beq_iff_eq, Bool.or_eq_true, Bool.and_eq_true, Bool.not_eq_true', decide_eq_decide, decide_eq_false_iff_not, beq_eq_false_iff_ne, Bool.not_eq_eq_eq_not, Bool.not_true]; omega
  have eEq : (sub32Z a b) = (a == b) := by
    unfold sub32Z wrap32; rw [Bool.eq_iff_iff]; simp only [decide_eq_true_eq, bne_iff_ne, ne_eq, beq_iff_eq, Bool.or_eq_true, Bool.and_eq_true, Bool.not_eq_true', decide_eq_decide, decide_eq_false_iff_not, beq_eq_false_iff_ne, Bool.not_eq_eq_eq_not, Bool.not_true]; omega
  have eNe : (!(sub32Z a b)) = (a != b) := by
    unfold sub32Z wrap32; rw [Bool.eq_iff_iff]; simp only [decide_eq_true_eq, bne_iff_ne, ne_eq, beq_iff_eq, Bool.or_eq_true, Bool.and_eq_true, Bool.not_eq_true', decide_eq_decide, decide_eq_false_iff_not, beq_eq_false_iff_ne, Bool.not_eq_eq_eq_not, Bool.not_true]; omega
  refine (c9 a b w).mono ?_
  rintro e w' ⟨rfl, hb⟩
  exact ⟨by rw [eNe, eN, eC, eV, eEq], hb⟩
theorem ne_ne (x y : Int) : ¬ (x != y) = (x == y) := by cases h : (x == y) <;> simp [bne, h]
set_option maxHeartbeats 4000000 in
set_option maxRecDepth 100000 in
theorem FnSubBits32_walk (a b : Int) (W : World) (w0 : (Lit.int .i32 a).wf = true) (w1 : (Lit.int .i32 b).wf = true) :
    Calls Try.prog 4 #[.int .i32 a, .int .i32 b] W fun e W' => e = .returned (.bool true) ∧ Below W.heap.size W W' := by
  have hz : (wrap32 (a - b) == 0) = (a == b) := by
    obtain ⟨ha0, ha1⟩ := wfi32 w0
    obtain ⟨hb0, hb1⟩ := wfi32 w1
    unfold wrap32; rw [Bool.eq_iff_iff]; simp only [decide_eq_true_eq, bne_iff_ne, ne_eq, beq_iff_eq, Bool.or_eq_true, Bool.and_eq_true, Bool.not_eq_true', decide_eq_decide, decide_eq_false_iff_not, beq_eq_false_iff_ne, Bool.not_eq_eq_eq_not, Bool.not_true]; omega
  go_enter Try.func4, Try.ntmps4
  go_wp2_with (first | (go_at_call 9; refine (c9b _ _ _ w0 w1).mono ?_; rintro e w1 ⟨rfl, hb⟩))
  go_ret
  exact ⟨by first | (simp; done) | (simp; exact ne_ne _ _), by first | exact (hb.trans ((Below.refl _ _).alloc hb.size _)) | exact (hb.alloc hb.size _)⟩
end Go.Proofs.Ytdchpmohaiiicaa.Fl
