/- The flags behind sums and differences: the walks of the package's functions and of the thin package, for all numbers; no condition. -/
import Derived.Test.YtdchpmohaiiicaaFl
namespace Go.Proofs.Ytdchpmohaiiicaa.Fl
open Go.RowKit Go.Proofs.YtdchpmohaiiicaaW.PrintWords Go.Proofs.YtdchpmohaiiicaaW.PrintLast Go.Proofs.Ytdchpmohaiiicaa.Kit Go.Proofs.Ytdchpmohaiiicaa.PFnSubFlags32

def sub64N (a b : Int) : Bool := decide (wrap64 (a - b) < 0)
def sub64Z (a b : Int) : Bool := wrap64 (a - b) == 0
def sub64C (a b : Int) : Bool := decide (IntKind.u64.wrap b ≤ IntKind.u64.wrap a)
def sub64V (a b : Int) : Bool := decide ((0 ≤ a ∧ b < 0 ∧ wrap64 (a - b) < 0) ∨ (a < 0 ∧ 0 ≤ b ∧ 0 ≤ wrap64 (a - b)))
theorem c37_0 (a b : Int) (w : World) (hA : a < 0) (hB : b < 0) (hS : 0 ≤ wrap64 (a - b)) :
    Calls Try.prog 37 #[.int .i64 a, .int .i64 b] w fun e w' => e = .returned (.int .u8 (en (sub64N a b) (sub64Z a b) (sub64C a b) (sub64V a b))) ∧ Below w.heap.size w w' := by
  have f1 : decide (0 ≤ a) = false := by simp; omega
  have f2 : decide (a < 0) = true := by simp; omega
  have f3 : decide (0 ≤ b) = false := by simp; omega
  have f4 : decide (b < 0) = true := by simp; omega
  have f5 : decide (wrap64 (a - b) < 0) = false := by simp; omega
  have f6 : decide (0 ≤ wrap64 (a - b)) = true := by simp; omega
  have hn : sub64N a b = false := f5
  have hv : sub64V a b = false := by unfold sub64V; simp; omega
  have H : Hid (en (sub64N a b) (sub64Z a b) (sub64C a b) (sub64V a b) = en false (wrap64 (a - b) == 0) (decide (IntKind.u64.wrap b ≤ IntKind.u64.wrap a)) false) := Lib.hid (by rw [hn, hv]; rfl)
  clear hn hv hA hB hS
  go_enter Try.func37, Try.ntmps37
  go_wp2_with (go_at_call 53; refine (c53 _ _ _ _ _).mono ?_; rintro e w' ⟨rfl, hb⟩)
  go_ret
  exact ⟨by rw [H.out]; rfl, ((Below.refl _ _).alloc (Nat.le_refl _) _).trans (hb.mono (by simp))⟩
theorem c37_1 (a b : Int) (w : World) (hA : 0 ≤ a) (hB : b < 0) (hS : 0 ≤ wrap64 (a - b)) :
    Calls Try.prog 37 #[.int .i64 a, .int .i64 b] w fun e w' => e = .returned (.int .u8 (en (sub64N a b) (sub64Z a b) (sub64C a b) (sub64V a b))) ∧ Below w.heap.size w w' := by
  have f1 : decide (0 ≤ a) = true := by simp; omega
  have f2 : decide (a < 0) = false := by simp; omega
  have f3 : decide (0 ≤ b) = false := by simp; omega
  have f4 : decide (b < 0) = true := by simp; omega
  have f5 : decide (wrap64 (a - b) < 0) = false := by simp; omega
  have f6 : decide (0 ≤ wrap64 (a - b)) = true := by simp; omega
  have hn : sub64N a b = false := f5
  have hv : sub64V a b = false := by unfold sub64V; simp; omega
  have H : Hid (en (sub64N a b) (sub64Z a b) (sub64C a b) (sub64V a b) = en false (wrap64 (a - b) == 0) (decide (IntKind.u64.wrap b ≤ IntKind.u64.wrap a)) false) := Lib.hid (by rw [hn, hv]; rfl)
  clear hn hv hA hB hS
  go_enter Try.func37, Try.ntmps37
  go_wp2_with (go_at_call 53; refine (c53 _ _ _ _ _).mono ?_; rintro e w' ⟨rfl, hb⟩)
  go_ret
  exact ⟨by rw [H.out]; rfl, ((Below.refl _ _).alloc (Nat.le_refl _) _).trans (hb.mono (by simp))⟩
theorem c37_2 (a b : Int) (w : World) (hA : a < 0) (hB : 0 ≤ b) (hS : 0 ≤ wrap64 (a - b)) :
    Calls Try.prog 37 #[.int .i64 a, .int .i64 b] w fun e w' => e = .returned (.int .u8 (en (sub64N a b) (sub64Z a b) (sub64C a b) (sub64V a b))) ∧ Below w.heap.size w w' := by
  have f1 : decide (0 ≤ a) = false := by simp; omega
  have f2 : decide (a < 0) = true := by simp; omega
  have f3 : decide (0 ≤ b) = true := by simp; omega
  have f4 : decide (b < 0) = false := by simp; omega
  have f5 : decide (wrap64 (a - b) < 0) = false := by simp; omega
  have f6 : decide (0 ≤ wrap64 (a - b)) = true := by simp; omega
  have hn : sub64N a b = false := f5
  have hv : sub64V a b = true := by unfold sub64V; simp; omega
  have H : Hid (en (sub64N a b) (sub64Z a b) (sub64C a b) (sub64V a b) = en false (wrap64 (a - b) == 0) (decide (IntKind.u64.wrap b ≤ IntKind.u64.wrap a)) true) := Lib.hid (by rw [hn, hv]; rfl)
  clear hn hv hA hB hS
  go_enter Try.func37, Try.ntmps37
  go_wp2_with (go_at_call 53; refine (c53 _ _ _ _ _).mono ?_; rintro e w' ⟨rfl, hb⟩)
  go_ret
  exact ⟨by rw [H.out]; rfl, ((Below.refl _ _).alloc (Nat.le_refl _) _).trans (hb.mono (by simp))⟩
theorem c37_3 (a b : Int) (w : World) (hA : 0 ≤ a) (hB : 0 ≤ b) (hS : 0 ≤ wrap64 (a - b)) :
    Calls Try.prog 37 #[.int .i64 a, .int .i64 b] w fun e w' => e = .returned (.int .u8 (en (sub64N a b) (sub64Z a b) (sub64C a b) (sub64V a b))) ∧ Below w.heap.size w w' := by
  have f1 : decide (0 ≤ a) = true := by simp; omega
  have f2 : decide (a < 0) = false := by simp; omega
  have f3 : decide (0 ≤ b) = true := by simp; omega
  have f4 : decide (b < 0) = false := by simp; omega
  have f5 : decide (wrap64 (a - b) < 0) = false := by simp; omega
  have f6 : decide (0 ≤ wrap64 (a - b)) = true := by simp; omega
  have hn : sub64N a b = false := f5
  have hv : sub64V a b = false := by unfold sub64V; simp; omega
  have H : Hid (en (sub64N a b) (sub64Z a b) (sub64C a b) (sub64V a b) = en false (wrap64 (a - b) == 0) (decide (IntKind.u64.wrap b ≤ IntKind.u64.wrap a)) false) := Lib.hid (by rw [hn, hv]; rfl)
  clear hn hv hA hB hS
  go_enter Try.func37, Try.ntmps37
  go_wp2_with (go_at_call 53; refine (c53 _ _ _ _ _).mono ?_; rintro e w' ⟨rfl, hb⟩)
  go_ret
  exact ⟨by rw [H.out]; rfl, ((Below.refl _ _).alloc (Nat.le_refl _) _).trans (hb.mono (by simp))⟩
theorem c37_4 (a b : Int) (w : World) (hA : a < 0) (hB : b < 0) (hS : wrap64 (a - b) < 0) :
    Calls Try.prog 37 #[.int .i64 a, .int .i64 b] w fun e w' => e = .returned (.int .u8 (en (sub64N a b) (sub64Z a b) (sub64C a b) (sub64V a b))) ∧ Below w.heap.size w w' := by
  have f1 : decide (0 ≤ a) = false := by simp; omega
  have f2 : decide (a < 0) = true := by simp; omega
  have f3 : decide (0 ≤ b) = false := by simp; omega
  have f4 : decide (b < 0) = true := by simp; omega
  have f5 : decide (wrap64 (a - b) < 0) = true := by simp; omega
  have f6 : decide (0 ≤ wrap64 (a - b)) = false := by simp; omega
  have hn : sub64N a b = true := f5
  have hv : sub64V a b = false := by unfold sub64V; simp; omega
  have H : Hid (en (sub64N a b) (sub64Z a b) (sub64C a b) (sub64V a b) = en true (wrap64 (a - b) == 0) (decide (IntKind.u64.wrap b ≤ IntKind.u64.wrap a)) false) := Lib.hid (by rw [hn, hv]; rfl)
  clear hn hv hA hB hS
  go_enter Try.func37, Try.ntmps37
  go_wp2_with (go_at_call 53; refine (c53 _ _ _ _ _).mono ?_; rintro e w' ⟨rfl, hb⟩)
  go_ret
  exact ⟨by rw [H.out]; rfl, ((Below.refl _ _).alloc (Nat.le_refl _) _).trans (hb.mono (by simp))⟩
theorem c37_5 (a b : Int) (w : World) (hA : 0 ≤ a) (hB : b < 0) (hS : wrap64 (a - b) < 0) :
    Calls Try.prog 37 #[.int .i64 a, .int .i64 b] w fun e w' => e = .returned (.int .u8 (en (sub64N a b) (sub64Z a b) (sub64C a b) (sub64V a b))) ∧ Below w.heap.size w w' := by
  have f1 : decide (0 ≤ a) = true := by simp; omega
  have f2 : decide (a < 0) = false := by simp; omega
  have f3 : decide (0 ≤ b) = false := by simp; omega
  have f4 : decide (b < 0) = true := by simp; omega
  have f5 : decide (wrap64 (a - b) < 0) = true := by simp; omega
  have f6 : decide (0 ≤ wrap64 (a - b)) = false := by simp; omega
  have hn : sub64N a b = true := f5
  have hv : sub64V a b = true := by unfold sub64V; simp; omega
  have H : Hid (en (sub64N a b) (sub64Z a b) (sub64C a b) (sub64V a b) = en true (wrap64 (a - b) == 0) (decide (IntKind.u64.wrap b ≤ IntKind.u64.wrap a)) true) := Lib.hid (by rw [hn, hv]; rfl)
  clear hn hv hA hB hS
  go_enter Try.func37, Try.ntmps37
  go_wp2_with (go_at_call 53; refine (c53 _ _ _ _ _).mono ?_; rintro e w' ⟨rfl, hb⟩)
  go_ret
  exact ⟨by rw [H.out]; rfl, ((Below.refl _ _).alloc (Nat.le_refl _) _).trans (hb.mono (by simp))⟩
theorem c37_6 (a b : Int) (w : World) (hA : a < 0) (hB : 0 ≤ b) (hS : wrap64 (a - b) < 0) :
    Calls Try.prog 37 #[.int .i64 a, .int .i64 b] w fun e w' => e = .returned (.int .u8 (en (sub64N a b) (sub64Z a b) (sub64C a b) (sub64V a b))) ∧ Below w.heap.size w w' := by
  have f1 : decide (0 ≤ a) = false := by simp; omega
  have f2 : decide (a < 0) = true := by simp; omega
  have f3 : decide (0 ≤ b) = true := by simp; omega
  have f4 : decide (b < 0) = false := by simp; omega
  have f5 : decide (wrap64 (a - b) < 0) = true := by simp; omega
  have f6 : decide (0 ≤ wrap64 (a - b)) = false := by simp; omega
  have hn : sub64N a b = true := f5
  have hv : sub64V a b = false := by unfold sub64V; simp; omega
  have H : Hid (en (sub64N a b) (sub64Z a b) (sub64C a b) (sub64V a b) = en true (wrap64 (a - b) == 0) (decide (IntKind.u64.wrap b ≤ IntKind.u64.wrap a)) false) := Lib.hid (by rw [hn, hv]; rfl)
  clear hn hv hA hB hS
  go_enter Try.func37, Try.ntmps37
  go_wp2_with (go_at_call 53; refine (c53 _ _ _ _ _).mono ?_; rintro e w' ⟨rfl, hb⟩)
  go_ret
  exact ⟨by rw [H.out]; rfl, ((Below.refl _ _).alloc (Nat.le_refl _) _).trans (hb.mono (by simp))⟩
theorem c37_7 (a b : Int) (w : World) (hA : 0 ≤ a) (hB : 0 ≤ b) (hS : wrap64 (a - b) < 0) :
    Calls Try.prog 37 #[.int .i64 a, .int .i64 b] w fun e w' => e = .returned (.int .u8 (en (sub64N a b) (sub64Z a b) (sub64C a b) (sub64V a b))) ∧ Below w.heap.size w w' := by
  have f1 : decide (0 ≤ a) = true := by simp; omega
  have f2 : decide (a < 0) = false := by simp; omega
  have f3 : decide (0 ≤ b) = true := by simp; omega
  have f4 : decide (b < 0) = false := by simp; omega
  have f5 : decide (wrap64 (a - b) < 0) = true := by simp; omega
  have f6 : decide (0 ≤ wrap64 (a - b)) = false := by simp; omega
  have hn : sub64N a b = true := f5
  have hv : sub64V a b = false := by unfold sub64V; simp; omega
  have H : Hid (en (sub64N a b) (sub64Z a b) (sub64C a b) (sub64V a b) = en true (wrap64 (a - b) == 0) (decide (IntKind.u64.wrap b ≤ IntKind.u64.wrap a)) false) := Lib.hid (by rw [hn, hv]; rfl)
  clear hn hv hA hB hS
  go_enter Try.func37, Try.ntmps37
  go_wp2_with (go_at_call 53; refine (c53 _ _ _ _ _).mono ?_; rintro e w' ⟨rfl, hb⟩)
  go_ret
  exact ⟨by rw [H.out]; rfl, ((Below.refl _ _).alloc (Nat.le_refl _) _).trans (hb.mono (by simp))⟩
theorem c37 (a b : Int) (w : World) :
    Calls Try.prog 37 #[.int .i64 a, .int .i64 b] w fun e w' => e = .returned (.int .u8 (en (sub64N a b) (sub64Z a b) (sub64C a b) (sub64V a b))) ∧ Below w.heap.size w w' := by
  by_cases hA : 0 ≤ a <;> by_cases hB : 0 ≤ b <;> by_cases hS : wrap64 (a - b) < 0
  · exact c37_7 a b w hA hB hS
  · exact c37_3 a b w hA hB (by omega)
  · exact c37_5 a b w hA (by omega) hS
  · exact c37_1 a b w hA (by omega) (by omega)
  · exact c37_6 a b w (by omega) hB hS
  · exact c37_2 a b w (by omega) hB (by omega)
  · exact c37_4 a b w (by omega) (by omega) hS
  · exact c37_0 a b w (by omega) (by omega) (by omega)
theorem c15 (a b : Int) (w : World) :
    Calls Try.prog 15 #[.int .i64 a, .int .i64 b] w fun e w' => e = .returned (.int .u8 (en (sub64N a b) (sub64Z a b) (sub64C a b) (sub64V a b))) ∧ Below w.heap.size w w' := by
  go_enter Try.func15, Try.ntmps15
  go_wp2_with (go_at_call 37; refine (c37 _ _ _).mono ?_; rintro e w' ⟨rfl, hb⟩)
  go_ret
  exact ⟨rfl, hb⟩
theorem c10 (a b : Int) (w : World) :
    Calls Try.prog 10 #[.int .i64 a, .int .i64 b] w fun e w' => e = .returned (.agg #[.bool (sub64N a b), .bool (sub64Z a b), .bool (sub64C a b), .bool (sub64V a b), .bool (sub64Z a b), .bool (!(sub64Z a b)), .bool ((sub64N a b) != (sub64V a b)), .bool ((sub64Z a b) || ((sub64N a b) != (sub64V a b))), .bool (!(sub64Z a b) && ((sub64N a b) == (sub64V a b))), .bool ((sub64N a b) == (sub64V a b)), .bool (!(sub64C a b)), .bool ((sub64Z a b) || !(sub64C a b)), .bool (!(sub64Z a b) && (sub64C a b)), .bool (sub64C a b), .bool (((sub64N a b) != (sub64V a b)) && !(sub64V a b)), .bool (((sub64Z a b) || ((sub64N a b) != (sub64V a b))) && !(sub64V a b)), .bool ((!(sub64Z a b) && ((sub64N a b) == (sub64V a b))) && !(sub64V a b)), .bool (((sub64N a b) == (sub64V a b)) && !(sub64V a b))]) ∧ Below w.heap.size w w' := by
  have hnew := blk_new w (.cells #[.bool false, .bool false, .bool false, .bool false, .bool false, .bool false, .bool false, .bool false, .bool false, .bool false, .bool false, .bool false, .bool false, .bool false, .bool false, .bool false, .bool false, .bool false] 23)
  go_enter Try.func10, Try.ntmps10
  go_wp2_with (first
    | (go_at_call 15; refine (c15 _ _ _).mono ?_; rintro e w1 ⟨rfl, hb⟩; have hg1 := blk_below hnew hb)
    | (go_at_call 12; refine (c12 _ _ _ _ _).mono ?_; rintro e w2 ⟨rfl, hc⟩; have hg2 := blk_below hg1 hc)
    | (refine wpList_store_row rfl 23 _ _ rfl w.heap.size #[.bool (sub64N a b), .bool (sub64Z a b), .bool (sub64C a b), .bool (sub64V a b), .bool (sub64Z a b), .bool (!(sub64Z a b)), .bool ((sub64N a b) != (sub64V a b)), .bool ((sub64Z a b) || ((sub64N a b) != (sub64V a b))), .bool (!(sub64Z a b) && ((sub64N a b) == (sub64V a b))), .bool ((sub64N a b) == (sub64V a b)), .bool (!(sub64C a b)), .bool ((sub64Z a b) || !(sub64C a b)), .bool (!(sub64Z a b) && (sub64C a b)), .bool (sub64C a b), .bool (((sub64N a b) != (sub64V a b)) && !(sub64V a b)), .bool (((sub64Z a b) || ((sub64N a b) != (sub64V a b))) && !(sub64V a b)), .bool ((!(sub64Z a b) && ((sub64N a b) == (sub64V a b))) && !(sub64V a b)), .bool (((sub64N a b) == (sub64V a b)) && !(sub64V a b))] rfl rfl 23 _ hg2 (by kernel_rfl) rfl (by simp [Value.oneCell']) ?_))
  refine bodyPost_ret (results_cell_row rfl _ _ w.heap.size 23 #[.bool (sub64N a b), .bool (sub64Z a b), .bool (sub64C a b), .bool (sub64V a b), .bool (sub64Z a b), .bool (!(sub64Z a b)), .bool ((sub64N a b) != (sub64V a b)), .bool ((sub64Z a b) || ((sub64N a b) != (sub64V a b))), .bool (!(sub64Z a b) && ((sub64N a b) == (sub64V a b))), .bool ((sub64N a b) == (sub64V a b)), .bool (!(sub64C a b)), .bool ((sub64Z a b) || !(sub64C a b)), .bool (!(sub64Z a b) && (sub64C a b)), .bool (sub64C a b), .bool (((sub64N a b) != (sub64V a b)) && !(sub64V a b)), .bool (((sub64Z a b) || ((sub64N a b) != (sub64V a b))) && !(sub64V a b)), .bool ((!(sub64Z a b) && ((sub64N a b) == (sub64V a b))) && !(sub64V a b)), .bool (((sub64N a b) == (sub64V a b)) && !(sub64V a b))] (0, 0) _ rfl (setRow_heap _ _ _ _ _ _ hg2) Try.underlying23 rfl (by kernel_rfl)) rfl ⟨rfl, ?_⟩
  exact below_setRow ((((Below.refl _ _).alloc (Nat.le_refl _) _).trans (hb.mono (by simp))).trans (hc.mono (by have := hb.size; simp at this; omega))) (Nat.le_refl _) _
end Go.Proofs.Ytdchpmohaiiicaa.Fl
