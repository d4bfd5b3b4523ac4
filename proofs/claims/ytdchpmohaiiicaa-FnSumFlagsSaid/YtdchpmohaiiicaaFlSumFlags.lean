/- FnSumFlags: behind a sum of int64 the comparisons are those of the first part with the negation of the other one, where that is a number and not 0; no condition. The facts on numbers, and the walk of the law. -/
import Derived.Test.YtdchpmohaiiicaaFlAdd64
import Derived.Test.YtdchpmohaiiicaaFlSub64
set_option linter.unusedSimpArgs false
set_option linter.unusedVariables false
namespace Go.Proofs.Ytdchpmohaiiicaa.Fl
open Go.RowKit Go.Proofs.YtdchpmohaiiicaaW.PrintWords Go.Proofs.YtdchpmohaiiicaaW.PrintLast Go.Proofs.Ytdchpmohaiiicaa.Kit Go.Proofs.Ytdchpmohaiiicaa.PFnSubFlags32
theorem bne_self {x : Bool} : ¬ (!x) = x := by cases x <;> simp
theorem neg_same (a b : Int) (ha : (Lit.int .i64 a).wf = true) (hb : (Lit.int .i64 b).wf = true) (h0 : b ≠ 0) (h1 : b ≠ -9223372036854775808) :
    sub64N a (wrap64 (-b)) = add64N a b ∧ sub64Z a (wrap64 (-b)) = add64Z a b ∧ sub64C a (wrap64 (-b)) = add64C a b ∧ sub64V a (wrap64 (-b)) = add64V a b := by
  obtain ⟨ha0, ha1⟩ := wfi64 ha
  obtain ⟨hb0, hb1⟩ := wfi64 hb
  have hn : wrap64 (-b) = -b := w64 (by omega) (by omega)
  have hs : a - -b = a + b := by omega
  rw [hn]
  refine ⟨by unfold sub64N add64N; rw [hs], by unfold sub64Z add64Z; rw [hs], ?_, ?_⟩
  · unfold sub64C add64C
    rw [wu64_wrap64, wu64m, wu64m, wu64m, decide_eq_decide]
    omega
  · unfold sub64V add64V
    rw [hs, decide_eq_decide]
    omega
theorem c10s (a b : Int) (w : World) (ha : (Lit.int .i64 a).wf = true) (hb : (Lit.int .i64 b).wf = true) (h0 : b ≠ 0) (h1 : b ≠ -9223372036854775808) :
    Calls Try.prog 10 #[.int .i64 a, .int .i64 (wrap64 (-b))] w fun e w' => e = .returned (.agg #[.bool (add64N a b), .bool (add64Z a b), .bool (add64C a b), .bool (add64V a b), .bool (add64Z a b), .bool (!(add64Z a b)), .bool ((add64N a b) != (add64V a b)), .bool ((add64Z a b) || ((add64N a b) != (add64V a b))), .bool (!(add64Z a b) && ((add64N a b) == (add64V a b))), .bool ((add64N a b) == (add64V a b)), .bool (!(add64C a b)), .bool ((add64Z a b) || !(add64C a b)), .bool (!(add64Z a b) && (add64C a b)), .bool (add64C a b), .bool (((add64N a b) != (add64V a b)) && !(add64V a b)), .bool (((add64Z a b) || ((add64N a b) != (add64V a b))) && !(add64V a b)), .bool ((!(add64Z a b) && ((add64N a b) == (add64V a b))) && !(add64V a b)), .bool (((add64N a b) == (add64V a b)) && !(add64V a b))]) ∧ Below w.heap.size w w' := by
  obtain ⟨e1, e2, e3, e4⟩ := neg_same a b ha hb h0 h1
  refine (c10 a (wrap64 (-b)) w).mono ?_
  rintro e w' ⟨rfl, hb⟩
  exact ⟨by rw [e1, e2, e3, e4], hb⟩
theorem h12 : (sub64N 1 2 != sub64V 1 2) = true := by decide +kernel
theorem neg_zero : ((0 : Int) == wrap64 (-0)) = true := by decide +kernel
theorem neg_min : ((-9223372036854775808 : Int) == wrap64 (- -9223372036854775808)) = true := by decide +kernel
theorem neg_no (b : Int) (w1 : (Lit.int .i64 b).wf = true) (h0 : b ≠ 0) (h1 : b ≠ -9223372036854775808) : (b == wrap64 (-b)) = false := by
  obtain ⟨hb0, hb1⟩ := wfi64 w1
  rw [w64 (by omega) (by omega), beq_eq_false_iff_ne]; omega
set_option maxHeartbeats 4000000 in
set_option maxRecDepth 100000 in
theorem sum_one (a b : Int) (f0 f1 f2 f3 f4 f5 f6 f7 f8 f9 f10 f11 f12 f13 f14 f15 f16 f17 : Bool) (W : World) (hq : (b == wrap64 (-b)) = true) (HL : Hid (f6 = true))
    (H10 : Hid (∀ w, Calls Try.prog 10 #[.int .i64 1, .int .i64 2] w fun e w' => e = .returned (.agg #[.bool f0, .bool f1, .bool f2, .bool f3, .bool f4, .bool f5, .bool f6, .bool f7, .bool f8, .bool f9, .bool f10, .bool f11, .bool f12, .bool f13, .bool f14, .bool f15, .bool f16, .bool f17]) ∧ Below w.heap.size w w')) :
    Calls Try.prog 6 #[.int .i64 a, .int .i64 b] W fun e W' => e = .returned (.bool true) ∧ Below W.heap.size W W' := by
  have hfld : ∀ w, (Instr.field 23 (.agg #[.bool f0, .bool f1, .bool f2, .bool f3, .bool f4, .bool f5, .bool f6, .bool f7, .bool f8, .bool f9, .bool f10, .bool f11, .bool f12, .bool f13, .bool f14, .bool f15, .bool f16, .bool f17]) 6).run Try.prog w = .ok (.bool f6) w := fun _ => by kernel_rfl
  go_enter Try.func6, Try.ntmps6
  go_wp2_with (first | (go_at_call 10; refine (H10.out _).mono ?_; rintro e v1 ⟨rfl, hb⟩))
  go_ret
  exact ⟨by simp [HL.out], by first | exact hb | exact (hb.alloc hb.size _)⟩
set_option maxHeartbeats 4000000 in
set_option maxRecDepth 100000 in
theorem sum_two (a b : Int) (f0 f1 f2 f3 f4 f5 f6 f7 f8 f9 f10 f11 f12 f13 f14 f15 f16 f17 : Bool) (W : World) (hq : (b == wrap64 (-b)) = false) (HL : Hid ((f5 != f4) = true))
    (H8 : Hid (∀ w, Calls Try.prog 8 #[.int .i64 a, .int .i64 b] w fun e w' => e = .returned (.agg #[.bool f0, .bool f1, .bool f2, .bool f3, .bool f4, .bool f5, .bool f6, .bool f7, .bool f8, .bool f9, .bool f10, .bool f11, .bool f12, .bool f13, .bool f14, .bool f15, .bool f16, .bool f17]) ∧ Below w.heap.size w w'))
    (H10 : Hid (∀ w, Calls Try.prog 10 #[.int .i64 a, .int .i64 (wrap64 (-b))] w fun e w' => e = .returned (.agg #[.bool f0, .bool f1, .bool f2, .bool f3, .bool f4, .bool f5, .bool f6, .bool f7, .bool f8, .bool f9, .bool f10, .bool f11, .bool f12, .bool f13, .bool f14, .bool f15, .bool f16, .bool f17]) ∧ Below w.heap.size w w')) :
    Calls Try.prog 6 #[.int .i64 a, .int .i64 b] W fun e W' => e = .returned (.bool true) ∧ Below W.heap.size W W' := by
  go_enter Try.func6, Try.ntmps6
  go_wp2_with (first
    | (go_at_call 8; refine (H8.out _).mono ?_; rintro e v1 ⟨rfl, hb⟩)
    | (go_at_call 10; refine (H10.out _).mono ?_; rintro e v2 ⟨rfl, hc⟩)
    | ((with_reducible refine gate_dst (N := 5) rfl ?_); refine box_event ?hg (N := 5) ?hd (cs := #[.bool false, .bool false, .bool false, .bool false, .bool false, .bool false, .bool false, .bool false, .bool false, .bool false, .bool false, .bool false, .bool false, .bool false, .bool false, .bool false, .bool false, .bool false]) (t := 23) ?hr ?_; (case hd => rfl); (case hg => rfl); (case hr => first | (go_simp; done) | (go_simp; rfl)); intro g5 e5 w5 hk5 hb5)
    | ((with_reducible refine gate_dst (N := 6) rfl ?_); refine box_event ?hg (N := 6) ?hd (cs := #[.bool false, .bool false, .bool false, .bool false, .bool false, .bool false, .bool false, .bool false, .bool false, .bool false, .bool false, .bool false, .bool false, .bool false, .bool false, .bool false, .bool false, .bool false]) (t := 23) ?hr ?_; (case hd => rfl); (case hg => rfl); (case hr => first | (go_simp; done) | (go_simp; rfl)); intro g6 e6 w6 hk6 hb6; have hk5' := blk_below hk5 hb6; have h56 : g6 ≠ g5 := (by have := blk_lt hk5; omega))
    | (refine wpList_store_row rfl 23 (.tmp 5) _ rfl g5 #[.bool f0, .bool f1, .bool f2, .bool f3, .bool f4, .bool f5, .bool f6, .bool f7, .bool f8, .bool f9, .bool f10, .bool f11, .bool f12, .bool f13, .bool f14, .bool f15, .bool f16, .bool f17] rfl rfl 23 _ hk5' (by kernel_rfl) rfl (by simp [Value.oneCell']) ?_; have hk6' := (setRow_other w6 g5 g6 #[.bool f0, .bool f1, .bool f2, .bool f3, .bool f4, .bool f5, .bool f6, .bool f7, .bool f8, .bool f9, .bool f10, .bool f11, .bool f12, .bool f13, .bool f14, .bool f15, .bool f16, .bool f17] h56).trans hk6)
    | (refine wpList_store_row rfl 23 (.tmp 6) _ rfl g6 #[.bool f0, .bool f1, .bool f2, .bool f3, .bool f4, .bool f5, .bool f6, .bool f7, .bool f8, .bool f9, .bool f10, .bool f11, .bool f12, .bool f13, .bool f14, .bool f15, .bool f16, .bool f17] rfl rfl 23 _ hk6' (by kernel_rfl) rfl (by simp [Value.oneCell']) ?_;
       have hr6 := setRow_heap _ g6 _ #[.bool f0, .bool f1, .bool f2, .bool f3, .bool f4, .bool f5, .bool f6, .bool f7, .bool f8, .bool f9, .bool f10, .bool f11, .bool f12, .bool f13, .bool f14, .bool f15, .bool f16, .bool f17] _ _ hk6'; have hr5 := (setRow_other (w6.setRow g5 #[.bool f0, .bool f1, .bool f2, .bool f3, .bool f4, .bool f5, .bool f6, .bool f7, .bool f8, .bool f9, .bool f10, .bool f11, .bool f12, .bool f13, .bool f14, .bool f15, .bool f16, .bool f17]) g6 g5 #[.bool f0, .bool f1, .bool f2, .bool f3, .bool f4, .bool f5, .bool f6, .bool f7, .bool f8, .bool f9, .bool f10, .bool f11, .bool f12, .bool f13, .bool f14, .bool f15, .bool f16, .bool f17] h56.symm).trans (setRow_heap _ g5 _ #[.bool f0, .bool f1, .bool f2, .bool f3, .bool f4, .bool f5, .bool f6, .bool f7, .bool f8, .bool f9, .bool f10, .bool f11, .bool f12, .bool f13, .bool f14, .bool f15, .bool f16, .bool f17] _ _ hk5');
       have hB : Below W.heap.size W ((w6.setRow g5 #[.bool f0, .bool f1, .bool f2, .bool f3, .bool f4, .bool f5, .bool f6, .bool f7, .bool f8, .bool f9, .bool f10, .bool f11, .bool f12, .bool f13, .bool f14, .bool f15, .bool f16, .bool f17]).setRow g6 #[.bool f0, .bool f1, .bool f2, .bool f3, .bool f4, .bool f5, .bool f6, .bool f7, .bool f8, .bool f9, .bool f10, .bool f11, .bool f12, .bool f13, .bool f14, .bool f15, .bool f16, .bool f17]) := (below_setRow (below_setRow (((hb.trans (hc.mono hb.size)).trans (hb5.mono (Nat.le_trans hb.size hc.size))).trans (hb6.mono (Nat.le_trans (Nat.le_trans hb.size hc.size) hb5.size))) (by have := hb.size; have := hc.size; omega) _) (by have := hb.size; have := hc.size; have := hb5.size; omega) _);
       clear hk6' hk6 hk5' hk5 hb6 hb5 hb hc e5 e6; generalize (w6.setRow g5 #[.bool f0, .bool f1, .bool f2, .bool f3, .bool f4, .bool f5, .bool f6, .bool f7, .bool f8, .bool f9, .bool f10, .bool f11, .bool f12, .bool f13, .bool f14, .bool f15, .bool f16, .bool f17]).setRow g6 #[.bool f0, .bool f1, .bool f2, .bool f3, .bool f4, .bool f5, .bool f6, .bool f7, .bool f8, .bool f9, .bool f10, .bool f11, .bool f12, .bool f13, .bool f14, .bool f15, .bool f16, .bool f17] = w7 at *;
       have k5_0 : w7.cell? ⟨g5, 0, none⟩ = some (.bool f0) := (blk_cell hr5 0).trans rfl; have k5_2 : w7.cell? ⟨g5, 2, none⟩ = some (.bool f2) := (blk_cell hr5 2).trans rfl; have k5_3 : w7.cell? ⟨g5, 3, none⟩ = some (.bool f3) := (blk_cell hr5 3).trans rfl; have k5_4 : w7.cell? ⟨g5, 4, none⟩ = some (.bool f4) := (blk_cell hr5 4).trans rfl; have k5_5 : w7.cell? ⟨g5, 5, none⟩ = some (.bool f5) := (blk_cell hr5 5).trans rfl; have k5_6 : w7.cell? ⟨g5, 6, none⟩ = some (.bool f6) := (blk_cell hr5 6).trans rfl; have k5_7 : w7.cell? ⟨g5, 7, none⟩ = some (.bool f7) := (blk_cell hr5 7).trans rfl; have k5_8 : w7.cell? ⟨g5, 8, none⟩ = some (.bool f8) := (blk_cell hr5 8).trans rfl; have k5_9 : w7.cell? ⟨g5, 9, none⟩ = some (.bool f9) := (blk_cell hr5 9).trans rfl;
       have k6_0 : w7.cell? ⟨g6, 0, none⟩ = some (.bool f0) := (blk_cell hr6 0).trans rfl; have k6_2 : w7.cell? ⟨g6, 2, none⟩ = some (.bool f2) := (blk_cell hr6 2).trans rfl; have k6_3 : w7.cell? ⟨g6, 3, none⟩ = some (.bool f3) := (blk_cell hr6 3).trans rfl; have k6_4 : w7.cell? ⟨g6, 4, none⟩ = some (.bool f4) := (blk_cell hr6 4).trans rfl; have k6_5 : w7.cell? ⟨g6, 5, none⟩ = some (.bool f5) := (blk_cell hr6 5).trans rfl; have k6_6 : w7.cell? ⟨g6, 6, none⟩ = some (.bool f6) := (blk_cell hr6 6).trans rfl; have k6_7 : w7.cell? ⟨g6, 7, none⟩ = some (.bool f7) := (blk_cell hr6 7).trans rfl; have k6_8 : w7.cell? ⟨g6, 8, none⟩ = some (.bool f8) := (blk_cell hr6 8).trans rfl; have k6_9 : w7.cell? ⟨g6, 9, none⟩ = some (.bool f9) := (blk_cell hr6 9).trans rfl))
  go_ret
  exact ⟨by rw [← HL.out]; rfl, hB⟩
theorem ne_eq_z (z : Bool) : ((!z) != z) = true := by cases z <;> rfl
theorem FnSumFlags_walk (a b : Int) (W : World) (w0 : (Lit.int .i64 a).wf = true) (w1 : (Lit.int .i64 b).wf = true) :
    Calls Try.prog 6 #[.int .i64 a, .int .i64 b] W fun e W' => e = .returned (.bool true) ∧ Below W.heap.size W W' := by
  by_cases h0 : b = 0
  · subst h0; exact sum_one a 0 _ _ _ _ _ _ _ _ _ _ _ _ _ _ _ _ _ _ W neg_zero (Lib.hid h12) (Lib.hid (c10 1 2))
  · by_cases h1 : b = -9223372036854775808
    · subst h1; exact sum_one a _ _ _ _ _ _ _ _ _ _ _ _ _ _ _ _ _ _ _ W neg_min (Lib.hid h12) (Lib.hid (c10 1 2))
    · exact sum_two a b _ _ _ _ _ _ _ _ _ _ _ _ _ _ _ _ _ _ W (neg_no b w1 h0 h1) (Lib.hid (ne_eq_z _)) (Lib.hid (c8 a b)) (Lib.hid (fun w => c10s a b w w0 w1 h0 h1))
end Go.Proofs.Ytdchpmohaiiicaa.Fl
