/- FnMergeIntoIs, FnMergeIntoOrder: the laws' walks; no condition beyond the statements' own. -/
import Derived.Test.YtfnhbjpflpbebaaMi
namespace Go.Proofs.Ytfnhbjpflpbebaa.Ml
set_option linter.unusedSimpArgs false
open Go.RowKit Go.Proofs.YtfnhbjpflpbebaaW.PrintWords Go.Proofs.YtfnhbjpflpbebaaW.PrintLast Go.Proofs.YtfnhbjpflpbebaaW.PrintMore Go.Proofs.Ytfnhbjpflpbebaa.Kit Go.Proofs.Ytfnhbjpflpbebaa.PFnMergeIntoIs Go.Proofs.Ytfnhbjpflpbebaa.Mg Go.Proofs.Ytfnhbjpflpbebaa.Mi
attribute [local go_sem] max2_int min2_int
theorem works : laws_ivWorks.f = some true := by decide +kernel
theorem some_any (a b : Int) : spec_Some.f a b = some (decide (a < b ∧ -2305843009213693952 ≤ a ∧ b ≤ 2305843009213693952)) := by
  unfold spec_Some.f
  by_cases h : a < b
  · rw [if_pos h]
    by_cases h1 : a ≥ -2305843009213693952
    · rw [if_pos h1]; exact some_dec (by omega)
    · rw [if_neg h1]; exact some_no (by omega)
  · rw [if_neg h]; exact some_no (by omega)
theorem c31 (w : World) : Calls Try.prog 31 #[] w fun e w' => e = .returned (.bool true) ∧ Below w.heap.size w w' :=
  laws_ivWorks.calls true w works
def sm (a b : Int) : Bool := decide (a < b ∧ -2305843009213693952 ≤ a ∧ b ≤ 2305843009213693952)
theorem c30 (a b : Int) (w : World) : Calls Try.prog 30 #[.agg #[.int .i64 a, .int .i64 b]] w fun e w' => e = .returned (.bool (sm a b)) ∧ Below w.heap.size w w' :=
  spec_Some.calls a b (sm a b) w (some_any a b)
theorem over_any (a b c d : Int) (ha : -2305843009213693952 ≤ a) (hb : b ≤ 2305843009213693952) (hc : -2305843009213693952 ≤ c) (hd : d ≤ 2305843009213693952) (hab : a < b) (hcd : c < d) :
    ov a b c d = decide (a < d ∧ c < b) := by
  unfold ov intervals_Interval_Overlaps.f intervals_imin.f intervals_imax.f
  have e1 : (if b < d then some b else some d) = some (if b < d then b else d) := by split <;> rfl
  have e2 : (if a > c then some a else some c) = some (if a > c then a else c) := by split <;> rfl
  rw [e1, e2, Option.bind_some, Option.bind_some]
  have e3 : wrap64 ((if b < d then b else d) - (if a > c then a else c)) = (if b < d then b else d) - (if a > c then a else c) := by
    split <;> split <;> exact w64 (by omega) (by omega)
  rw [e3]
  show decide _ = decide _
  refine decide_eq_decide.mpr ?_
  split <;> split <;> omega
/-- what impl.MergeInto answers of intervals with places. -/
theorem merge_yes (a b c d : Int) (hs : sm a b = true) (ht : sm c d = true) (h : max a c ≤ min b d) (w : World) :
    Calls Try.prog 32 #[.agg #[.int .i64 a, .int .i64 b], .agg #[.int .i64 c, .int .i64 d]] w fun e w' => e = .returned (.tuple #[.agg #[.int .i64 (min a c), .int .i64 (max b d)], .bool true]) ∧ Below w.heap.size w w' := by
  unfold sm at hs ht
  have hs := of_decide_eq_true hs
  have ht := of_decide_eq_true ht
  have e1 : Mg.mn a c = min a c := by unfold Mg.mn; split <;> omega
  have e2 : Mg.mx b d = max b d := by unfold Mg.mx; split <;> omega
  have ho := over_any a b c d hs.2.1 hs.2.2 ht.2.1 ht.2.2 hs.1 ht.1
  rw [← e1, ← e2]
  by_cases hv : a < d ∧ c < b
  · exact c32_yes a b c d _ _ (fun p w h0 => c51_over p a b c d w h0 (by rw [ho]; exact decide_eq_true hv)) w
  · refine c32_yes a b c d _ _ (fun p w h0 => c51_adj p a b c d w h0 (by rw [ho]; exact decide_eq_false hv) ?_) w
    unfold ad
    simp only [Bool.or_eq_true, beq_iff_eq]
    omega
theorem merge_no (a b c d : Int) (hs : sm a b = true) (ht : sm c d = true) (h : ¬ max a c ≤ min b d) (w : World) :
    Calls Try.prog 32 #[.agg #[.int .i64 a, .int .i64 b], .agg #[.int .i64 c, .int .i64 d]] w fun e w' => e = .returned (.tuple #[.agg #[.int .i64 a, .int .i64 b], .bool false]) ∧ Below w.heap.size w w' := by
  unfold sm at hs ht
  have hs := of_decide_eq_true hs
  have ht := of_decide_eq_true ht
  have ho := over_any a b c d hs.2.1 hs.2.2 ht.2.1 ht.2.2 hs.1 ht.1
  refine c32_no a b c d _ _ (fun p w h0 => c51_no p a b c d w h0 (by rw [ho]; exact decide_eq_false (by omega)) ?_) w
  unfold ad
  rw [Bool.or_eq_false_iff]
  refine ⟨beq_false_of_ne ?_, beq_false_of_ne ?_⟩ <;> omega
structure S3 (a b c d : Int) (w0 w : World) : Prop where
  bs : w.heap[w0.heap.size]? = some (.cells #[.int .i64 a, .int .i64 b] 45 (0, 0))
  bt : w.heap[w0.heap.size + 1]? = some (.cells #[.int .i64 c, .int .i64 d] 45 (0, 0))
  below : Below w0.heap.size w0 w
theorem S3.new (a b c d : Int) (w : World) : S3 a b c d w ((w.alloc (.cells #[.int .i64 a, .int .i64 b] 45 (0, 0))).alloc (.cells #[.int .i64 c, .int .i64 d] 45 (0, 0))) :=
  ⟨blk_alloc (blk_new w _) _, by have := blk_new (w.alloc (.cells #[.int .i64 a, .int .i64 b] 45 (0, 0))) (.cells #[.int .i64 c, .int .i64 d] 45 (0, 0)); simpa using this, ((Below.refl _ _).alloc (Nat.le_refl _) _).alloc (by simp) _⟩
theorem S3.call {a b c d : Int} {w0 w w' : World} (h : S3 a b c d w0 w) (hb : Below w.heap.size w w') : S3 a b c d w0 w' :=
  ⟨blk_below h.bs hb, blk_below h.bt hb, h.below.trans (hb.mono (Nat.le_of_lt (blk_lt h.bs)))⟩
theorem S3.row {a b c d : Int} {w0 w : World} (h : S3 a b c d w0 w) {g : Nat} (hg : w0.heap.size + 1 < g) (cs : Array Value) : S3 a b c d w0 (w.setRow g cs) :=
  ⟨(setRow_other w g _ cs (by omega)).trans h.bs, (setRow_other w g _ cs (by omega)).trans h.bt, below_setRow h.below (by omega) cs⟩
theorem S3.cells {a b c d : Int} {w0 w : World} (h : S3 a b c d w0 w) : w.cell? ⟨w0.heap.size, 0, none⟩ = some (.int .i64 a) ∧ w.cell? ⟨w0.heap.size, 1, none⟩ = some (.int .i64 b) ∧ w.cell? ⟨w0.heap.size + 1, 0, none⟩ = some (.int .i64 c) ∧ w.cell? ⟨w0.heap.size + 1, 1, none⟩ = some (.int .i64 d) :=
  ⟨(blk_cell h.bs 0).trans rfl, (blk_cell h.bs 1).trans rfl, (blk_cell h.bt 0).trans rfl, (blk_cell h.bt 1).trans rfl⟩
set_option maxHeartbeats 8000000 in
set_option maxRecDepth 100000 in
theorem f8_s (a b c d : Int) (hs : sm a b = false) (w : World) :
    Calls Try.prog 8 #[.agg #[.int .i64 a, .int .i64 b], .agg #[.int .i64 c, .int .i64 d]] w fun e w' => e = .returned (.bool true) ∧ Below w.heap.size w w' := by
  have hu45 := Try.underlying45
  have HS := Lib.hid hs
  clear hs
  have hk := S3.new a b c d w
  go_enter Try.func8, Try.ntmps8
  go_wp2_with (first
    | (go_at_call_of 30 (Value.agg #[.int .i64 a, .int .i64 b]); refine (c30 a b _).mono ?_; rintro e w1 ⟨rfl, hb⟩; rw [HS.out]; have hk' := S3.call hk hb; clear hk; have hk := hk'; clear hk'; (try clear j0 j1 j2 j3); obtain ⟨j0, j1, j2, j3⟩ := hk.cells; clear hb)
    | (go_at_call 31; refine (c31 _).mono ?_; rintro e w9 ⟨rfl, hb⟩; have hk' := S3.call hk hb; clear hk; have hk := hk'; clear hk'; (try clear j0 j1 j2 j3); obtain ⟨j0, j1, j2, j3⟩ := hk.cells; clear hb))
  all_goals (go_ret; exact ⟨by simp_all, hk.below⟩)
set_option maxHeartbeats 8000000 in
set_option maxRecDepth 100000 in
theorem f8_t (a b c d : Int) (hs : sm a b = true) (ht : sm c d = false) (w : World) :
    Calls Try.prog 8 #[.agg #[.int .i64 a, .int .i64 b], .agg #[.int .i64 c, .int .i64 d]] w fun e w' => e = .returned (.bool true) ∧ Below w.heap.size w w' := by
  have hu45 := Try.underlying45
  have HS := Lib.hid hs
  have HT := Lib.hid ht
  clear hs ht
  have hk := S3.new a b c d w
  go_enter Try.func8, Try.ntmps8
  go_wp2_with (first
    | (go_at_call_of 30 (Value.agg #[.int .i64 a, .int .i64 b]); refine (c30 a b _).mono ?_; rintro e w1 ⟨rfl, hb⟩; rw [HS.out]; have hk' := S3.call hk hb; clear hk; have hk := hk'; clear hk'; (try clear j0 j1 j2 j3); obtain ⟨j0, j1, j2, j3⟩ := hk.cells; clear hb)
    | (go_at_call_of 30 (Value.agg #[.int .i64 c, .int .i64 d]); refine (c30 c d _).mono ?_; rintro e w2 ⟨rfl, hb⟩; rw [HT.out]; have hk' := S3.call hk hb; clear hk; have hk := hk'; clear hk'; (try clear j0 j1 j2 j3); obtain ⟨j0, j1, j2, j3⟩ := hk.cells; clear hb)
    | (go_at_call 31; refine (c31 _).mono ?_; rintro e w9 ⟨rfl, hb⟩; have hk' := S3.call hk hb; clear hk; have hk := hk'; clear hk'; (try clear j0 j1 j2 j3); obtain ⟨j0, j1, j2, j3⟩ := hk.cells; clear hb))
  all_goals (go_ret; exact ⟨by simp_all, hk.below⟩)
set_option maxHeartbeats 8000000 in
set_option maxRecDepth 100000 in
theorem f8_yes (a b c d : Int) (hs : sm a b = true) (ht : sm c d = true) (h : max a c ≤ min b d) (w : World) :
    Calls Try.prog 8 #[.agg #[.int .i64 a, .int .i64 b], .agg #[.int .i64 c, .int .i64 d]] w fun e w' => e = .returned (.bool true) ∧ Below w.heap.size w w' := by
  have hu45 := Try.underlying45
  have HS := Lib.hid hs
  have HT := Lib.hid ht
  have H32 := Lib.hid (merge_yes a b c d hs ht h)
  clear hs ht
  have hk := S3.new a b c d w
  go_enter Try.func8, Try.ntmps8
  go_wp2_with (first
    | (go_at_call_of 30 (Value.agg #[.int .i64 a, .int .i64 b]); refine (c30 a b _).mono ?_; rintro e w1 ⟨rfl, hb⟩; rw [HS.out]; have hk' := S3.call hk hb; clear hk; have hk := hk'; clear hk'; (try clear j0 j1 j2 j3); obtain ⟨j0, j1, j2, j3⟩ := hk.cells; clear hb)
    | (go_at_call_of 30 (Value.agg #[.int .i64 c, .int .i64 d]); refine (c30 c d _).mono ?_; rintro e w2 ⟨rfl, hb⟩; rw [HT.out]; have hk' := S3.call hk hb; clear hk; have hk := hk'; clear hk'; (try clear j0 j1 j2 j3); obtain ⟨j0, j1, j2, j3⟩ := hk.cells; clear hb)
    | (go_at_call_of 32 (Value.agg #[.int .i64 a, .int .i64 b]); refine (H32.out _).mono ?_; rintro e w3 ⟨rfl, hb⟩; have hk' := S3.call hk hb; clear hk; have hk := hk'; clear hk'; (try clear j0 j1 j2 j3); obtain ⟨j0, j1, j2, j3⟩ := hk.cells; clear hb)
    | ((with_reducible refine gate_dst (N := 5) rfl ?_); refine box_event ?hg (N := 5) ?hd (cs := #[.int .i64 0, .int .i64 0]) (t := 45) ?hr ?_; (case hd => rfl); (case hg => rfl); (case hr => first | (go_simp; done) | (go_simp; rfl)); intro g5 e5 w4 kb5 hb; have hg5 : w.heap.size + 1 < g5 := (by rw [e5]; exact blk_lt hk.bt); have hk' := S3.call hk hb; clear hk; have hk := hk'; clear hk'; (try clear j0 j1 j2 j3); obtain ⟨j0, j1, j2, j3⟩ := hk.cells; clear hb e5)
    | (refine wpList_store_row rfl 45 (.tmp 5) _ rfl g5 #[.int .i64 (min a c), .int .i64 (max b d)] rfl rfl 45 _ kb5 (by kernel_rfl) rfl (by simp [Value.oneCell']) ?_; have kg5 := setRow_heap _ g5 _ #[.int .i64 (min a c), .int .i64 (max b d)] _ _ kb5; have hk' := S3.row hk hg5 #[.int .i64 (min a c), .int .i64 (max b d)]; clear hk kb5 j0 j1 j2 j3; have hk := hk'; clear hk'; generalize w4.setRow g5 #[.int .i64 (min a c), .int .i64 (max b d)] = w5 at *; obtain ⟨j0, j1, j2, j3⟩ := hk.cells; have q0 : w5.cell? ⟨g5, 0, none⟩ = some (.int .i64 (min a c)) := (blk_cell kg5 0).trans rfl; have q1 : w5.cell? ⟨g5, 1, none⟩ = some (.int .i64 (max b d)) := (blk_cell kg5 1).trans rfl))
  all_goals (first | (go_ret; exact ⟨rfl, hk.below⟩) | (go_ret; exact ⟨by simp_all, hk.below⟩))
set_option maxHeartbeats 8000000 in
set_option maxRecDepth 100000 in
theorem f8_no (a b c d : Int) (hs : sm a b = true) (ht : sm c d = true) (h : ¬ max a c ≤ min b d) (w : World) :
    Calls Try.prog 8 #[.agg #[.int .i64 a, .int .i64 b], .agg #[.int .i64 c, .int .i64 d]] w fun e w' => e = .returned (.bool true) ∧ Below w.heap.size w w' := by
  have hu45 := Try.underlying45
  have HS := Lib.hid hs
  have HT := Lib.hid ht
  have H32 := Lib.hid (merge_no a b c d hs ht h)
  clear hs ht
  have hk := S3.new a b c d w
  go_enter Try.func8, Try.ntmps8
  go_wp2_with (first
    | (go_at_call_of 30 (Value.agg #[.int .i64 a, .int .i64 b]); refine (c30 a b _).mono ?_; rintro e w1 ⟨rfl, hb⟩; rw [HS.out]; have hk' := S3.call hk hb; clear hk; have hk := hk'; clear hk'; (try clear j0 j1 j2 j3); obtain ⟨j0, j1, j2, j3⟩ := hk.cells; clear hb)
    | (go_at_call_of 30 (Value.agg #[.int .i64 c, .int .i64 d]); refine (c30 c d _).mono ?_; rintro e w2 ⟨rfl, hb⟩; rw [HT.out]; have hk' := S3.call hk hb; clear hk; have hk := hk'; clear hk'; (try clear j0 j1 j2 j3); obtain ⟨j0, j1, j2, j3⟩ := hk.cells; clear hb)
    | (go_at_call_of 32 (Value.agg #[.int .i64 a, .int .i64 b]); refine (H32.out _).mono ?_; rintro e w3 ⟨rfl, hb⟩; have hk' := S3.call hk hb; clear hk; have hk := hk'; clear hk'; (try clear j0 j1 j2 j3); obtain ⟨j0, j1, j2, j3⟩ := hk.cells; clear hb)
    | ((with_reducible refine gate_dst (N := 5) rfl ?_); refine box_event ?hg (N := 5) ?hd (cs := #[.int .i64 0, .int .i64 0]) (t := 45) ?hr ?_; (case hd => rfl); (case hg => rfl); (case hr => first | (go_simp; done) | (go_simp; rfl)); intro g5 e5 w4 kb5 hb; have hg5 : w.heap.size + 1 < g5 := (by rw [e5]; exact blk_lt hk.bt); have hk' := S3.call hk hb; clear hk; have hk := hk'; clear hk'; (try clear j0 j1 j2 j3); obtain ⟨j0, j1, j2, j3⟩ := hk.cells; clear hb e5)
    | (refine wpList_store_row rfl 45 (.tmp 5) _ rfl g5 #[.int .i64 a, .int .i64 b] rfl rfl 45 _ kb5 (by kernel_rfl) rfl (by simp [Value.oneCell']) ?_; have kg5 := setRow_heap _ g5 _ #[.int .i64 a, .int .i64 b] _ _ kb5; have hk' := S3.row hk hg5 #[.int .i64 a, .int .i64 b]; clear hk kb5 j0 j1 j2 j3; have hk := hk'; clear hk'; generalize w4.setRow g5 #[.int .i64 a, .int .i64 b] = w5 at *; obtain ⟨j0, j1, j2, j3⟩ := hk.cells; have q0 : w5.cell? ⟨g5, 0, none⟩ = some (.int .i64 a) := (blk_cell kg5 0).trans rfl; have q1 : w5.cell? ⟨g5, 1, none⟩ = some (.int .i64 b) := (blk_cell kg5 1).trans rfl)
    | (go_at_call 31; refine (c31 _).mono ?_; rintro e w9 ⟨rfl, hb⟩; have hk' := S3.call hk hb; clear hk; have hk := hk'; clear hk'; (try clear j0 j1 j2 j3); obtain ⟨j0, j1, j2, j3⟩ := hk.cells; have kg5' := blk_below kg5 hb; clear kg5 q0 q1; have kg5 := kg5'; clear kg5'; have q0 := (blk_cell kg5 0).trans rfl; have q1 := (blk_cell kg5 1).trans rfl; clear hb))
  all_goals (first | (go_ret; exact ⟨rfl, hk.below⟩) | (go_ret; exact ⟨by simp_all, hk.below⟩))
theorem walk_is (a b c d : Int) (w : World) (_ : (Lit.int .i64 a).wf = true) (_ : (Lit.int .i64 b).wf = true) (_ : (Lit.int .i64 c).wf = true) (_ : (Lit.int .i64 d).wf = true) :
    Calls Try.prog 8 #[.agg #[.int .i64 a, .int .i64 b], .agg #[.int .i64 c, .int .i64 d]] w fun e w' => e = .returned (.bool true) ∧ Below w.heap.size w w' := by
  cases hs : sm a b with
  | false => exact f8_s a b c d hs w
  | true =>
    cases ht : sm c d with
    | false => exact f8_t a b c d hs ht w
    | true =>
      by_cases h : max a c ≤ min b d
      · exact f8_yes a b c d hs ht h w
      · exact f8_no a b c d hs ht h w
end Go.Proofs.Ytfnhbjpflpbebaa.Ml
