/- The flags behind sums and differences: the walks of the package's functions and of the thin package, for all numbers; no condition. -/
import Derived.Test.YtdchpmohaiiicaaFl
namespace Go.Proofs.Ytdchpmohaiiicaa.Fl
open Go.RowKit Go.Proofs.YtdchpmohaiiicaaW.PrintWords Go.Proofs.YtdchpmohaiiicaaW.PrintLast Go.Proofs.Ytdchpmohaiiicaa.Kit Go.Proofs.Ytdchpmohaiiicaa.PFnSubFlags32

def add64N (a b : Int) : Bool := decide (wrap64 (a + b) < 0)
def add64Z (a b : Int) : Bool := wrap64 (a + b) == 0
def add64C (a b : Int) : Bool := decide (IntKind.u64.wrap (wrap64 (a + b)) < IntKind.u64.wrap a)
def add64V (a b : Int) : Bool := decide ((0 ≤ a ∧ 0 ≤ b ∧ wrap64 (a + b) < 0) ∨ (a < 0 ∧ b < 0 ∧ 0 ≤ wrap64 (a + b)))
theorem c35_0 (a b : Int) (w : World) (hA : a < 0) (hB : b < 0) (hS : 0 ≤ wrap64 (a + b)) :
    Calls Try.prog 35 #[.int .i64 a, .int .i64 b] w fun e w' => e = .returned (.int .u8 (en (add64N a b) (add64Z a b) (add64C a b) (add64V a b))) ∧ Below w.heap.size w w' := by
  have f1 : decide (0 ≤ a) = false := by simp; omega
  have f2 : decide (a < 0) = true := by simp; omega
  have f3 : decide (0 ≤ b) = false := by simp; omega
  have f4 : decide (b < 0) = true := by simp; omega
  have f5 : decide (wrap64 (a + b) < 0) = false := by simp; omega
  have f6 : decide (0 ≤ wrap64 (a + b)) = true := by simp; omega
  have hn : add64N a b = false := f5
  have hv : add64V a b = true := by unfold add64V; simp; omega
  have H : Hid (en (add64N a b) (add64Z a b) (add64C a b) (add64V a b) = en false (wrap64 (a + b) == 0) (decide (IntKind.u64.wrap (wrap64 (a + b)) < IntKind.u64.wrap a)) true) := Lib.hid (by rw [hn, hv]; rfl)
  clear hn hv hA hB hS
  go_enter Try.func35, Try.ntmps35
  go_wp2_with (go_at_call 53; refine (c53 _ _ _ _ _).mono ?_; rintro e w' ⟨rfl, hb⟩)
  go_ret
  exact ⟨by rw [H.out]; rfl, ((Below.refl _ _).alloc (Nat.le_refl _) _).trans (hb.mono (by simp))⟩
theorem c35_1 (a b : Int) (w : World) (hA : 0 ≤ a) (hB : b < 0) (hS : 0 ≤ wrap64 (a + b)) :
    Calls Try.prog 35 #[.int .i64 a, .int .i64 b] w fun e w' => e = .returned (.int .u8 (en (add64N a b) (add64Z a b) (add64C a b) (add64V a b))) ∧ Below w.heap.size w w' := by
  have f1 : decide (0 ≤ a) = true := by simp; omega
  have f2 : decide (a < 0) = false := by simp; omega
  have f3 : decide (0 ≤ b) = false := by simp; omega
  have f4 : decide (b < 0) = true := by simp; omega
  have f5 : decide (wrap64 (a + b) < 0) = false := by simp; omega
  have f6 : decide (0 ≤ wrap64 (a + b)) = true := by simp; omega
  have hn : add64N a b = false := f5
  have hv : add64V a b = false := by unfold add64V; simp; omega
  have H : Hid (en (add64N a b) (add64Z a b) (add64C a b) (add64V a b) = en false (wrap64 (a + b) == 0) (decide (IntKind.u64.wrap (wrap64 (a + b)) < IntKind.u64.wrap a)) false) := Lib.hid (by rw [hn, hv]; rfl)
  clear hn hv hA hB hS
  go_enter Try.func35, Try.ntmps35
  go_wp2_with (go_at_call 53; refine (c53 _ _ _ _ _).mono ?_; rintro e w' ⟨rfl, hb⟩)
  go_ret
  exact ⟨by rw [H.out]; rfl, ((Below.refl _ _).alloc (Nat.le_refl _) _).trans (hb.mono (by simp))⟩
theorem c35_2 (a b : Int) (w : World) (hA : a < 0) (hB : 0 ≤ b) (hS : 0 ≤ wrap64 (a + b)) :
    Calls Try.prog 35 #[.int .i64 a, .int .i64 b] w fun e w' => e = .returned (.int .u8 (en (add64N a b) (add64Z a b) (add64C a b) (add64V a b))) ∧ Below w.heap.size w w' := by
  have f1 : decide (0 ≤ a) = false := by simp; omega
  have f2 : decide (a < 0) = true := by simp; omega
  have f3 : decide (0 ≤ b) = true := by simp; omega
  have f4 : decide (b < 0) = false := by simp; omega
  have f5 : decide (wrap64 (a + b) < 0) = false := by simp; omega
  have f6 : decide (0 ≤ wrap64 (a + b)) = true := by simp; omega
  have hn : add64N a b = false := f5
  have hv : add64V a b = false := by unfold add64V; simp; omega
  have H : Hid (en (add64N a b) (add64Z a b) (add64C a b) (add64V a b) = en false (wrap64 (a + b) == 0) (decide (IntKind.u64.wrap (wrap64 (a + b)) < IntKind.u64.wrap a)) false) := Lib.hid (by rw [hn, hv]; rfl)
  clear hn hv hA hB hS
  go_enter Try.func35, Try.ntmps35
  go_wp2_with (go_at_call 53; refine (c53 _ _ _ _ _).mono ?_; rintro e w' ⟨rfl, hb⟩)
  go_ret
  exact ⟨by rw [H.out]; rfl, ((Below.refl _ _).alloc (Nat.le_refl _) _).trans (hb.mono (by simp))⟩
theorem c35_3 (a b : Int) (w : World) (hA : 0 ≤ a) (hB : 0 ≤ b) (hS : 0 ≤ wrap64 (a + b)) :
    Calls Try.prog 35 #[.int .i64 a, .int .i64 b] w fun e w' => e = .returned (.int .u8 (en (add64N a b) (add64Z a b) (add64C a b) (add64V a b))) ∧ Below w.heap.size w w' := by
  have f1 : decide (0 ≤ a) = true := by simp; omega
  have f2 : decide (a < 0) = false := by simp; omega
  have f3 : decide (0 ≤ b) = true := by simp; omega
  have f4 : decide (b < 0) = false := by simp; omega
  have f5 : decide (wrap64 (a + b) < 0) = false := by simp; omega
  have f6 : decide (0 ≤ wrap64 (a + b)) = true := by simp; omega
  have hn : add64N a b = false := f5
  have hv : add64V a b = false := by unfold add64V; simp; omega
  have H : Hid (en (add64N a b) (add64Z a b) (add64C a b) (add64V a b) = en false (wrap64 (a + b) == 0) (decide (IntKind.u64.wrap (wrap64 (a + b)) < IntKind.u64.wrap a)) false) := Lib.hid (by rw [hn, hv]; rfl)
  clear hn hv hA hB hS
  go_enter Try.func35, Try.ntmps35
  go_wp2_with (go_at_call 53; refine (c53 _ _ _ _ _).mono ?_; rintro e w' ⟨rfl, hb⟩)
  go_ret
  exact ⟨by rw [H.out]; rfl, ((Below.refl _ _).alloc (Nat.le_refl _) _).trans (hb.mono (by simp))⟩
theorem c35_4 (a b : Int) (w : World) (hA : a < 0) (hB : b < 0) (hS : wrap64 (a + b) < 0) :
    Calls Try.prog 35 #[.int .i64 a, .int .i64 b] w fun e w' => e = .returned (.int .u8 (en (add64N a b) (add64Z a b) (add64C a b) (add64V a b))) ∧ Below w.heap.size w w' := by
  have f1 : decide (0 ≤ a) = false := by simp; omega
  have f2 : decide (a < 0) = true := by simp; omega
  have f3 : decide (0 ≤ b) = false := by simp; omega
  have f4 : decide (b < 0) = true := by simp; omega
  have f5 : decide (wrap64 (a + b) < 0) = true := by simp; omega
  have f6 : decide (0 ≤ wrap64 (a + b)) = false := by simp; omega
  have hn : add64N a b = true := f5
  have hv : add64V a b = false := by unfold add64V; simp; omega
  have H : Hid (en (add64N a b) (add64Z a b) (add64C a b) (add64V a b) = en true (wrap64 (a + b) == 0) (decide (IntKind.u64.wrap (wrap64 (a + b)) < IntKind.u64.wrap a)) false) := Lib.hid (by rw [hn, hv]; rfl)
  clear hn hv hA hB hS
  go_enter Try.func35, Try.ntmps35
  go_wp2_with (go_at_call 53; refine (c53 _ _ _ _ _).mono ?_; rintro e w' ⟨rfl, hb⟩)
  go_ret
  exact ⟨by rw [H.out]; rfl, ((Below.refl _ _).alloc (Nat.le_refl _) _).trans (hb.mono (by simp))⟩
theorem c35_5 (a b : Int) (w : World) (hA : 0 ≤ a) (hB : b < 0) (hS : wrap64 (a + b) < 0) :
    Calls Try.prog 35 #[.int .i64 a, .int .i64 b] w fun e w' => e = .returned (.int .u8 (en (add64N a b) (add64Z a b) (add64C a b) (add64V a b))) ∧ Below w.heap.size w w' := by
  have f1 : decide (0 ≤ a) = true := by simp; omega
  have f2 : decide (a < 0) = false := by simp; omega
  have f3 : decide (0 ≤ b) = false := by simp; omega
  have f4 : decide (b < 0) = true := by simp; omega
  have f5 : decide (wrap64 (a + b) < 0) = true := by simp; omega
  have f6 : decide (0 ≤ wrap64 (a + b)) = false := by simp; omega
  have hn : add64N a b = true := f5
  have hv : add64V a b = false := by unfold add64V; simp; omega
  have H : Hid (en (add64N a b) (add64Z a b) (add64C a b) (add64V a b) = en true (wrap64 (a + b) == 0) (decide (IntKind.u64.wrap (wrap64 (a + b)) < IntKind.u64.wrap a)) false) := Lib.hid (by rw [hn, hv]; rfl)
  clear hn hv hA hB hS
  go_enter Try.func35, Try.ntmps35
  go_wp2_with (go_at_call 53; refine (c53 _ _ _ _ _).mono ?_; rintro e w' ⟨rfl, hb⟩)
  go_ret
  exact ⟨by rw [H.out]; rfl, ((Below.refl _ _).alloc (Nat.le_refl _) _).trans (hb.mono (by simp))⟩
theorem c35_6 (a b : Int) (w : World) (hA : a < 0) (hB : 0 ≤ b) (hS : wrap64 (a + b) < 0) :
    Calls Try.prog 35 #[.int .i64 a, .int .i64 b] w fun e w' => e = .returned (.int .u8 (en (add64N a b) (add64Z a b) (add64C a b) (add64V a b))) ∧ Below w.heap.size w w' := by
  have f1 : decide (0 ≤ a) = false := by simp; omega
  have f2 : decide (a < 0) = true := by simp; omega
  have f3 : decide (0 ≤ b) = true := by simp; omega
  have f4 : decide (b < 0) = false := by simp; omega
  have f5 : decide (wrap64 (a + b) < 0) = true := by simp; omega
  have f6 : decide (0 ≤ wrap64 (a + b)) = false := by simp; omega
  have hn : add64N a b = true := f5
  have hv : add64V a b = false := by unfold add64V; simp; omega
  have H : Hid (en (add64N a b) (add64Z a b) (add64C a b) (add64V a b) = en true (wrap64 (a + b) == 0) (decide (IntKind.u64.wrap (wrap64 (a + b)) < IntKind.u64.wrap a)) false) := Lib.hid (by rw [hn, hv]; rfl)
  clear hn hv hA hB hS
  go_enter Try.func35, Try.ntmps35
  go_wp2_with (go_at_call 53; refine (c53 _ _ _ _ _).mono ?_; rintro e w' ⟨rfl, hb⟩)
  go_ret
  exact ⟨by rw [H.out]; rfl, ((Below.refl _ _).alloc (Nat.le_refl _) _).trans (hb.mono (by simp))⟩
theorem c35_7 (a b : Int) (w : World) (hA : 0 ≤ a) (hB : 0 ≤ b) (hS : wrap64 (a + b) < 0) :
    Calls Try.prog 35 #[.int .i64 a, .int .i64 b] w fun e w' => e = .returned (.int .u8 (en (add64N a b) (add64Z a b) (add64C a b) (add64V a b))) ∧ Below w.heap.size w w' := by
  have f1 : decide (0 ≤ a) = true := by simp; omega
  have f2 : decide (a < 0) = false := by simp; omega
  have f3 : decide (0 ≤ b) = true := by simp; omega
  have f4 : decide (b < 0) = false := by simp; omega
  have f5 : decide (wrap64 (a + b) < 0) = true := by simp; omega
  have f6 : decide (0 ≤ wrap64 (a + b)) = false := by simp; omega
  have hn : add64N a b = true := f5
  have hv : add64V a b = true := by unfold add64V; simp; omega
  have H : Hid (en (add64N a b) (add64Z a b) (add64C a b) (add64V a b) = en true (wrap64 (a + b) == 0) (decide (IntKind.u64.wrap (wrap64 (a + b)) < IntKind.u64.wrap a)) true) := Lib.hid (by rw [hn, hv]; rfl)
  clear hn hv hA hB hS
  go_enter Try.func35, Try.ntmps35
  go_wp2_with (go_at_call 53; refine (c53 _ _ _ _ _).mono ?_; rintro e w' ⟨rfl, hb⟩)
  go_ret
  exact ⟨by rw [H.out]; rfl, ((Below.refl _ _).alloc (Nat.le_refl _) _).trans (hb.mono (by simp))⟩
theorem c35 (a b : Int) (w : World) :
    Calls Try.prog 35 #[.int .i64 a, .int .i64 b] w fun e w' => e = .returned (.int .u8 (en (add64N a b) (add64Z a b) (add64C a b) (add64V a b))) ∧ Below w.heap.size w w' := by
  by_cases hA : 0 ≤ a <;> by_cases hB : 0 ≤ b <;> by_cases hS : wrap64 (a + b) < 0
  · exact c35_7 a b w hA hB hS
  · exact c35_3 a b w hA hB (by omega)
  · exact c35_5 a b w hA (by omega) hS
  · exact c35_1 a b w hA (by omega) (by omega)
  · exact c35_6 a b w (by omega) hB hS
  · exact c35_2 a b w (by omega) hB (by omega)
  · exact c35_4 a b w (by omega) (by omega) hS
  · exact c35_0 a b w (by omega) (by omega) (by omega)
theorem c13 (a b : Int) (w : World) :
    Calls Try.prog 13 #[.int .i64 a, .int .i64 b] w fun e w' => e = .returned (.int .u8 (en (add64N a b) (add64Z a b) (add64C a b) (add64V a b))) ∧ Below w.heap.size w w' := by
  go_enter Try.func13, Try.ntmps13
  go_wp2_with (go_at_call 35; refine (c35 _ _ _).mono ?_; rintro e w' ⟨rfl, hb⟩)
  go_ret
  exact ⟨rfl, hb⟩
theorem c8 (a b : Int) (w : World) :
    Calls Try.prog 8 #[.int .i64 a, .int .i64 b] w fun e w' => e = .returned (.agg #[.bool (add64N a b), .bool (add64Z a b), .bool (add64C a b), .bool (add64V a b), .bool (add64Z a b), .bool (!(add64Z a b)), .bool ((add64N a b) != (add64V a b)), .bool ((add64Z a b) || ((add64N a b) != (add64V a b))), .bool (!(add64Z a b) && ((add64N a b) == (add64V a b))), .bool ((add64N a b) == (add64V a b)), .bool (!(add64C a b)), .bool ((add64Z a b) || !(add64C a b)), .bool (!(add64Z a b) && (add64C a b)), .bool (add64C a b), .bool (((add64N a b) != (add64V a b)) && !(add64V a b)), .bool (((add64Z a b) || ((add64N a b) != (add64V a b))) && !(add64V a b)), .bool ((!(add64Z a b) && ((add64N a b) == (add64V a b))) && !(add64V a b)), .bool (((add64N a b) == (add64V a b)) && !(add64V a b))]) ∧ Below w.heap.size w w' := by
  have hnew := blk_new w (.cells #[.bool false, .bool false, .bool false, .bool false, .bool false, .bool false, .bool false, .bool false, .bool false, .bool false, .bool false, .bool false, .bool false, .bool false, .bool false, .bool false, .bool false, .bool false] 23)
  go_enter Try.func8, Try.ntmps8
  go_wp2_with (first
    | (go_at_call 13; refine (c13 _ _ _).mono ?_; rintro e w1 ⟨rfl, hb⟩; have hg1 := blk_below hnew hb)
    | (go_at_call 12; refine (c12 _ _ _ _ _).mono ?_; rintro e w2 ⟨rfl, hc⟩; have hg2 := blk_below hg1 hc)
    | (refine wpList_store_row rfl 23 _ _ rfl w.heap.size #[.bool (add64N a b), .bool (add64Z a b), .bool (add64C a b), .bool (add64V a b), .bool (add64Z a b), .bool (!(add64Z a b)), .bool ((add64N a b) != (add64V a b)), .bool ((add64Z a b) || ((add64N a b) != (add64V a b))), .bool (!(add64Z a b) && ((add64N a b) == (add64V a b))), .bool ((add64N a b) == (add64V a b)), .bool (!(add64C a b)), .bool ((add64Z a b) || !(add64C a b)), .bool (!(add64Z a b) && (add64C a b)), .bool (add64C a b), .bool (((add64N a b) != (add64V a b)) && !(add64V a b)), .bool (((add64Z a b) || ((add64N a b) != (add64V a b))) && !(add64V a b)), .bool ((!(add64Z a b) && ((add64N a b) == (add64V a b))) && !(add64V a b)), .bool (((add64N a b) == (add64V a b)) && !(add64V a b))] rfl rfl 23 _ hg2 (by kernel_rfl) rfl (by simp [Value.oneCell']) ?_))
  refine bodyPost_ret (results_cell_row rfl _ _ w.heap.size 23 #[.bool (add64N a b), .bool (add64Z a b), .bool (add64C a b), .bool (add64V a b), .bool (add64Z a b), .bool (!(add64Z a b)), .bool ((add64N a b) != (add64V a b)), .bool ((add64Z a b) || ((add64N a b) != (add64V a b))), .bool (!(add64Z a b) && ((add64N a b) == (add64V a b))), .bool ((add64N a b) == (add64V a b)), .bool (!(add64C a b)), .bool ((add64Z a b) || !(add64C a b)), .bool (!(add64Z a b) && (add64C a b)), .bool (add64C a b), .bool (((add64N a b) != (add64V a b)) && !(add64V a b)), .bool (((add64Z a b) || ((add64N a b) != (add64V a b))) && !(add64V a b)), .bool ((!(add64Z a b) && ((add64N a b) == (add64V a b))) && !(add64V a b)), .bool (((add64N a b) == (add64V a b)) && !(add64V a b))] (0, 0) _ rfl (setRow_heap _ _ _ _ _ _ hg2) Try.underlying23 rfl (by kernel_rfl)) rfl ⟨rfl, ?_⟩
  exact below_setRow ((((Below.refl _ _).alloc (Nat.le_refl _) _).trans (hb.mono (by simp))).trans (hc.mono (by have := hb.size; simp at this; omega))) (Nat.le_refl _) _
end Go.Proofs.Ytdchpmohaiiicaa.Fl
