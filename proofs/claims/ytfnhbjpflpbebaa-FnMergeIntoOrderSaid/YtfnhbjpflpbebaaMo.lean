/- FnMergeIntoOrder: that two intervals merge, and to what, does not depend on their order; no condition beyond the statement's own. The law's walks. -/
import Derived.Test.YtfnhbjpflpbebaaMl
namespace Go.Proofs.Ytfnhbjpflpbebaa.Mo
set_option linter.unusedSimpArgs false
open Go.RowKit Go.Proofs.YtfnhbjpflpbebaaW.PrintWords Go.Proofs.YtfnhbjpflpbebaaW.PrintLast Go.Proofs.YtfnhbjpflpbebaaW.PrintMore Go.Proofs.Ytfnhbjpflpbebaa.Kit Go.Proofs.Ytfnhbjpflpbebaa.PFnMergeIntoIs Go.Proofs.Ytfnhbjpflpbebaa.Mg Go.Proofs.Ytfnhbjpflpbebaa.Mi Go.Proofs.Ytfnhbjpflpbebaa.Ml
attribute [local go_sem] max2_int min2_int
theorem f9_s (a b c d : Int) (hs : sm a b = false) (w : World) :
    Calls Try.prog 9 #[.agg #[.int .i64 a, .int .i64 b], .agg #[.int .i64 c, .int .i64 d]] w fun e w' => e = .returned (.bool true) ∧ Below w.heap.size w w' := by
  have hu45 := Try.underlying45
  have HS := Lib.hid hs
  clear hs
  have hk := S3.new a b c d w
  go_enter Try.func9, Try.ntmps9
  go_wp2_with (first
    | (go_at_call_of 30 (Value.agg #[.int .i64 a, .int .i64 b]); refine (c30 a b _).mono ?_; rintro e w1 ⟨rfl, hb⟩; rw [HS.out]; have hk' := S3.call hk hb; clear hk; have hk := hk'; clear hk'; (try clear j0 j1 j2 j3); obtain ⟨j0, j1, j2, j3⟩ := hk.cells; clear hb)
    | (go_at_call 31; refine (c31 _).mono ?_; rintro e w9 ⟨rfl, hb⟩; have hk' := S3.call hk hb; clear hk; have hk := hk'; clear hk'; (try clear j0 j1 j2 j3); obtain ⟨j0, j1, j2, j3⟩ := hk.cells; clear hb))
  all_goals (go_ret; exact ⟨by simp_all, hk.below⟩)
theorem f9_t (a b c d : Int) (hs : sm a b = true) (ht : sm c d = false) (w : World) :
    Calls Try.prog 9 #[.agg #[.int .i64 a, .int .i64 b], .agg #[.int .i64 c, .int .i64 d]] w fun e w' => e = .returned (.bool true) ∧ Below w.heap.size w w' := by
  have hu45 := Try.underlying45
  have HS := Lib.hid hs
  have HT := Lib.hid ht
  clear hs ht
  have hk := S3.new a b c d w
  go_enter Try.func9, Try.ntmps9
  go_wp2_with (first
    | (go_at_call_of 30 (Value.agg #[.int .i64 a, .int .i64 b]); refine (c30 a b _).mono ?_; rintro e w1 ⟨rfl, hb⟩; rw [HS.out]; have hk' := S3.call hk hb; clear hk; have hk := hk'; clear hk'; (try clear j0 j1 j2 j3); obtain ⟨j0, j1, j2, j3⟩ := hk.cells; clear hb)
    | (go_at_call_of 30 (Value.agg #[.int .i64 c, .int .i64 d]); refine (c30 c d _).mono ?_; rintro e w2 ⟨rfl, hb⟩; rw [HT.out]; have hk' := S3.call hk hb; clear hk; have hk := hk'; clear hk'; (try clear j0 j1 j2 j3); obtain ⟨j0, j1, j2, j3⟩ := hk.cells; clear hb)
    | (go_at_call 31; refine (c31 _).mono ?_; rintro e w9 ⟨rfl, hb⟩; have hk' := S3.call hk hb; clear hk; have hk := hk'; clear hk'; (try clear j0 j1 j2 j3); obtain ⟨j0, j1, j2, j3⟩ := hk.cells; clear hb))
  all_goals (go_ret; exact ⟨by simp_all, hk.below⟩)
theorem f9_yes (a b c d : Int) (hs : sm a b = true) (ht : sm c d = true) (h : max a c ≤ min b d) (w : World) :
    Calls Try.prog 9 #[.agg #[.int .i64 a, .int .i64 b], .agg #[.int .i64 c, .int .i64 d]] w fun e w' => e = .returned (.bool true) ∧ Below w.heap.size w w' := by
  have hu45 := Try.underlying45
  have H31 := Lib.hid (merge_yes a b c d hs ht h)
  have H32 : Hid (∀ w, Calls Try.prog 32 #[.agg #[.int .i64 c, .int .i64 d], .agg #[.int .i64 a, .int .i64 b]] w fun e w' => e = .returned (.tuple #[.agg #[.int .i64 (min a c), .int .i64 (max b d)], .bool true]) ∧ Below w.heap.size w w') := Lib.hid (by have h' := merge_yes c d a b ht hs (by omega); rw [Int.min_comm c a, Int.max_comm d b] at h'; exact h')
  have HS := Lib.hid hs
  have HT := Lib.hid ht
  clear hs ht
  have hk := S3.new a b c d w
  go_enter Try.func9, Try.ntmps9
  go_wp2_with (first
    | (go_at_call_of 30 (Value.agg #[.int .i64 a, .int .i64 b]); refine (c30 a b _).mono ?_; rintro e w1 ⟨rfl, hb⟩; rw [HS.out]; have hk' := S3.call hk hb; clear hk; have hk := hk'; clear hk'; (try clear j0 j1 j2 j3); obtain ⟨j0, j1, j2, j3⟩ := hk.cells; clear hb)
    | (go_at_call_of 30 (Value.agg #[.int .i64 c, .int .i64 d]); refine (c30 c d _).mono ?_; rintro e w2 ⟨rfl, hb⟩; rw [HT.out]; have hk' := S3.call hk hb; clear hk; have hk := hk'; clear hk'; (try clear j0 j1 j2 j3); obtain ⟨j0, j1, j2, j3⟩ := hk.cells; clear hb)
    | (go_at_call 32; (with_reducible refine (H31.out _).mono ?_); rintro e w3 ⟨rfl, hb⟩; have hk' := S3.call hk hb; clear hk; have hk := hk'; clear hk'; (try clear j0 j1 j2 j3); obtain ⟨j0, j1, j2, j3⟩ := hk.cells; clear hb)
    | ((with_reducible refine gate_dst (N := 5) rfl ?_); refine box_event ?hg (N := 5) ?hd (cs := #[.int .i64 0, .int .i64 0]) (t := 45) ?hr ?_; (case hd => rfl); (case hg => rfl); (case hr => first | (go_simp; done) | (go_simp; rfl)); intro g5 e5 w4 kb5 hb; have hg5 : w.heap.size + 1 < g5 := (by rw [e5]; exact blk_lt hk.bt); have hk' := S3.call hk hb; clear hk; have hk := hk'; clear hk'; (try clear j0 j1 j2 j3); obtain ⟨j0, j1, j2, j3⟩ := hk.cells; clear hb e5)
    | (refine wpList_store_row rfl 45 (.tmp 5) _ rfl g5 #[.int .i64 (min a c), .int .i64 (max b d)] rfl rfl 45 _ kb5 (by kernel_rfl) rfl (by simp [Value.oneCell']) ?_; have kg5 := setRow_heap _ g5 _ #[.int .i64 (min a c), .int .i64 (max b d)] _ _ kb5; have hk' := S3.row hk hg5 #[.int .i64 (min a c), .int .i64 (max b d)]; clear hk kb5 j0 j1 j2 j3; have hk := hk'; clear hk'; generalize w4.setRow g5 #[.int .i64 (min a c), .int .i64 (max b d)] = w5 at *; obtain ⟨j0, j1, j2, j3⟩ := hk.cells; have q0 : w5.cell? ⟨g5, 0, none⟩ = some (.int .i64 (min a c)) := (blk_cell kg5 0).trans rfl; have q1 : w5.cell? ⟨g5, 1, none⟩ = some (.int .i64 (max b d)) := (blk_cell kg5 1).trans rfl)
    | (go_at_call 32; (with_reducible refine (H32.out _).mono ?_); rintro e w6 ⟨rfl, hb⟩; have hk' := S3.call hk hb; clear hk; have hk := hk'; clear hk'; (try clear j0 j1 j2 j3); obtain ⟨j0, j1, j2, j3⟩ := hk.cells; have kg5' := blk_below kg5 hb; clear kg5; have kg5 := kg5'; clear kg5'; clear hb)
    | ((with_reducible refine gate_dst (N := 7) rfl ?_); refine box_event ?hg (N := 7) ?hd (cs := #[.int .i64 0, .int .i64 0]) (t := 45) ?hr ?_; (case hd => rfl); (case hg => rfl); (case hr => first | (go_simp; done) | (go_simp; rfl)); intro g7 e7 w7 kb7 hb; have hg7 : w.heap.size + 1 < g7 := (by rw [e7]; exact blk_lt hk.bt); have ne7 : g5 ≠ g7 := (by rw [e7]; exact Nat.ne_of_lt (blk_lt kg5)); have kg5' := blk_below kg5 hb; clear kg5; have kg5 := kg5'; clear kg5'; have hk' := S3.call hk hb; clear hk; have hk := hk'; clear hk'; (try clear j0 j1 j2 j3); obtain ⟨j0, j1, j2, j3⟩ := hk.cells; clear hb e7)
    | (refine wpList_store_row rfl 45 (.tmp 7) _ rfl g7 #[.int .i64 (min a c), .int .i64 (max b d)] rfl rfl 45 _ kb7 (by kernel_rfl) rfl (by simp [Value.oneCell']) ?_; have kg7 := setRow_heap _ g7 _ #[.int .i64 (min a c), .int .i64 (max b d)] _ _ kb7; have hk' := S3.row hk hg7 #[.int .i64 (min a c), .int .i64 (max b d)]; have kg5' := (setRow_other w7 g7 g5 #[.int .i64 (min a c), .int .i64 (max b d)] ne7).trans kg5; clear kg5; have kg5 := kg5'; clear kg5'; clear hk kb7 j0 j1 j2 j3; have hk := hk'; clear hk'; generalize w7.setRow g7 #[.int .i64 (min a c), .int .i64 (max b d)] = w8 at *; obtain ⟨j0, j1, j2, j3⟩ := hk.cells; have r0 : w8.cell? ⟨g7, 0, none⟩ = some (.int .i64 (min a c)) := (blk_cell kg7 0).trans rfl; have r1 : w8.cell? ⟨g7, 1, none⟩ = some (.int .i64 (max b d)) := (blk_cell kg7 1).trans rfl)
    | (go_at_call 31; refine (c31 _).mono ?_; rintro e w9 ⟨rfl, hb⟩; have hk' := S3.call hk hb; clear hk; have hk := hk'; clear hk'; (try clear j0 j1 j2 j3); obtain ⟨j0, j1, j2, j3⟩ := hk.cells; have kg5' := blk_below kg5 hb; clear kg5 q0 q1; have kg5 := kg5'; clear kg5'; have q0 := (blk_cell kg5 0).trans rfl; have q1 := (blk_cell kg5 1).trans rfl; have kg7' := blk_below kg7 hb; clear kg7 r0 r1; have kg7 := kg7'; clear kg7'; have r0 := (blk_cell kg7 0).trans rfl; have r1 := (blk_cell kg7 1).trans rfl; clear hb))
  all_goals (first | (go_ret; exact ⟨rfl, hk.below⟩) | (go_ret; exact ⟨by simp_all, hk.below⟩))
theorem f9_no (a b c d : Int) (hs : sm a b = true) (ht : sm c d = true) (h : ¬ max a c ≤ min b d) (w : World) :
    Calls Try.prog 9 #[.agg #[.int .i64 a, .int .i64 b], .agg #[.int .i64 c, .int .i64 d]] w fun e w' => e = .returned (.bool true) ∧ Below w.heap.size w w' := by
  have hu45 := Try.underlying45
  have H31 := Lib.hid (merge_no a b c d hs ht h)
  have H32 := Lib.hid (merge_no c d a b ht hs (by omega))
  have HS := Lib.hid hs
  have HT := Lib.hid ht
  clear hs ht
  have hk := S3.new a b c d w
  go_enter Try.func9, Try.ntmps9
  go_wp2_with (first
    | (go_at_call_of 30 (Value.agg #[.int .i64 a, .int .i64 b]); refine (c30 a b _).mono ?_; rintro e w1 ⟨rfl, hb⟩; rw [HS.out]; have hk' := S3.call hk hb; clear hk; have hk := hk'; clear hk'; (try clear j0 j1 j2 j3); obtain ⟨j0, j1, j2, j3⟩ := hk.cells; clear hb)
    | (go_at_call_of 30 (Value.agg #[.int .i64 c, .int .i64 d]); refine (c30 c d _).mono ?_; rintro e w2 ⟨rfl, hb⟩; rw [HT.out]; have hk' := S3.call hk hb; clear hk; have hk := hk'; clear hk'; (try clear j0 j1 j2 j3); obtain ⟨j0, j1, j2, j3⟩ := hk.cells; clear hb)
    | (go_at_call 32; (with_reducible refine (H31.out _).mono ?_); rintro e w3 ⟨rfl, hb⟩; have hk' := S3.call hk hb; clear hk; have hk := hk'; clear hk'; (try clear j0 j1 j2 j3); obtain ⟨j0, j1, j2, j3⟩ := hk.cells; clear hb)
    | ((with_reducible refine gate_dst (N := 5) rfl ?_); refine box_event ?hg (N := 5) ?hd (cs := #[.int .i64 0, .int .i64 0]) (t := 45) ?hr ?_; (case hd => rfl); (case hg => rfl); (case hr => first | (go_simp; done) | (go_simp; rfl)); intro g5 e5 w4 kb5 hb; have hg5 : w.heap.size + 1 < g5 := (by rw [e5]; exact blk_lt hk.bt); have hk' := S3.call hk hb; clear hk; have hk := hk'; clear hk'; (try clear j0 j1 j2 j3); obtain ⟨j0, j1, j2, j3⟩ := hk.cells; clear hb e5)
    | (refine wpList_store_row rfl 45 (.tmp 5) _ rfl g5 #[.int .i64 a, .int .i64 b] rfl rfl 45 _ kb5 (by kernel_rfl) rfl (by simp [Value.oneCell']) ?_; have kg5 := setRow_heap _ g5 _ #[.int .i64 a, .int .i64 b] _ _ kb5; have hk' := S3.row hk hg5 #[.int .i64 a, .int .i64 b]; clear hk kb5 j0 j1 j2 j3; have hk := hk'; clear hk'; generalize w4.setRow g5 #[.int .i64 a, .int .i64 b] = w5 at *; obtain ⟨j0, j1, j2, j3⟩ := hk.cells; have q0 : w5.cell? ⟨g5, 0, none⟩ = some (.int .i64 a) := (blk_cell kg5 0).trans rfl; have q1 : w5.cell? ⟨g5, 1, none⟩ = some (.int .i64 b) := (blk_cell kg5 1).trans rfl)
    | (go_at_call 32; (with_reducible refine (H32.out _).mono ?_); rintro e w6 ⟨rfl, hb⟩; have hk' := S3.call hk hb; clear hk; have hk := hk'; clear hk'; (try clear j0 j1 j2 j3); obtain ⟨j0, j1, j2, j3⟩ := hk.cells; have kg5' := blk_below kg5 hb; clear kg5; have kg5 := kg5'; clear kg5'; clear hb)
    | ((with_reducible refine gate_dst (N := 7) rfl ?_); refine box_event ?hg (N := 7) ?hd (cs := #[.int .i64 0, .int .i64 0]) (t := 45) ?hr ?_; (case hd => rfl); (case hg => rfl); (case hr => first | (go_simp; done) | (go_simp; rfl)); intro g7 e7 w7 kb7 hb; have hg7 : w.heap.size + 1 < g7 := (by rw [e7]; exact blk_lt hk.bt); have ne7 : g5 ≠ g7 := (by rw [e7]; exact Nat.ne_of_lt (blk_lt kg5)); have kg5' := blk_below kg5 hb; clear kg5; have kg5 := kg5'; clear kg5'; have hk' := S3.call hk hb; clear hk; have hk := hk'; clear hk'; (try clear j0 j1 j2 j3); obtain ⟨j0, j1, j2, j3⟩ := hk.cells; clear hb e7)
    | (refine wpList_store_row rfl 45 (.tmp 7) _ rfl g7 #[.int .i64 c, .int .i64 d] rfl rfl 45 _ kb7 (by kernel_rfl) rfl (by simp [Value.oneCell']) ?_; have kg7 := setRow_heap _ g7 _ #[.int .i64 c, .int .i64 d] _ _ kb7; have hk' := S3.row hk hg7 #[.int .i64 c, .int .i64 d]; have kg5' := (setRow_other w7 g7 g5 #[.int .i64 c, .int .i64 d] ne7).trans kg5; clear kg5; have kg5 := kg5'; clear kg5'; clear hk kb7 j0 j1 j2 j3; have hk := hk'; clear hk'; generalize w7.setRow g7 #[.int .i64 c, .int .i64 d] = w8 at *; obtain ⟨j0, j1, j2, j3⟩ := hk.cells; have r0 : w8.cell? ⟨g7, 0, none⟩ = some (.int .i64 c) := (blk_cell kg7 0).trans rfl; have r1 : w8.cell? ⟨g7, 1, none⟩ = some (.int .i64 d) := (blk_cell kg7 1).trans rfl)
    | (go_at_call 31; refine (c31 _).mono ?_; rintro e w9 ⟨rfl, hb⟩; have hk' := S3.call hk hb; clear hk; have hk := hk'; clear hk'; (try clear j0 j1 j2 j3); obtain ⟨j0, j1, j2, j3⟩ := hk.cells; have kg5' := blk_below kg5 hb; clear kg5 q0 q1; have kg5 := kg5'; clear kg5'; have q0 := (blk_cell kg5 0).trans rfl; have q1 := (blk_cell kg5 1).trans rfl; have kg7' := blk_below kg7 hb; clear kg7 r0 r1; have kg7 := kg7'; clear kg7'; have r0 := (blk_cell kg7 0).trans rfl; have r1 := (blk_cell kg7 1).trans rfl; clear hb))
  all_goals (first | (go_ret; exact ⟨rfl, hk.below⟩) | (go_ret; exact ⟨by simp_all, hk.below⟩))
theorem walk_order (a b c d : Int) (w : World) (_ : (Lit.int .i64 a).wf = true) (_ : (Lit.int .i64 b).wf = true) (_ : (Lit.int .i64 c).wf = true) (_ : (Lit.int .i64 d).wf = true) :
    Calls Try.prog 9 #[.agg #[.int .i64 a, .int .i64 b], .agg #[.int .i64 c, .int .i64 d]] w fun e w' => e = .returned (.bool true) ∧ Below w.heap.size w w' := by
  cases hs : sm a b with
  | false => exact f9_s a b c d hs w
  | true =>
    cases ht : sm c d with
    | false => exact f9_t a b c d hs ht w
    | true =>
      by_cases h : max a c ≤ min b d
      · exact f9_yes a b c d hs ht h w
      · exact f9_no a b c d hs ht h w
end Go.Proofs.Ytfnhbjpflpbebaa.Mo
