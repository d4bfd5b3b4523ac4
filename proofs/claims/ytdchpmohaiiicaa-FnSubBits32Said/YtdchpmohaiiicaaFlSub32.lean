/- The flags behind sums and differences: the walks of the package's functions and of the thin package, for all numbers; no condition. -/
import Derived.Test.YtdchpmohaiiicaaFl
namespace Go.Proofs.Ytdchpmohaiiicaa.Fl
open Go.RowKit Go.Proofs.YtdchpmohaiiicaaW.PrintWords Go.Proofs.YtdchpmohaiiicaaW.PrintLast Go.Proofs.Ytdchpmohaiiicaa.Kit Go.Proofs.Ytdchpmohaiiicaa.PFnSubFlags32

def sub32N (a b : Int) : Bool := decide (wrap32 (a - b) < 0)
def sub32Z (a b : Int) : Bool := wrap32 (a - b) == 0
def sub32C (a b : Int) : Bool := decide (b % 4294967296 ≤ a % 4294967296)
def sub32V (a b : Int) : Bool := decide ((0 ≤ a ∧ b < 0 ∧ wrap32 (a - b) < 0) ∨ (a < 0 ∧ 0 ≤ b ∧ 0 ≤ wrap32 (a - b)))
theorem c36_0 (a b : Int) (w : World) (hA : a < 0) (hB : b < 0) (hS : 0 ≤ wrap32 (a - b)) :
    Calls Try.prog 36 #[.int .i32 a, .int .i32 b] w fun e w' => e = .returned (.int .u8 (en (sub32N a b) (sub32Z a b) (sub32C a b) (sub32V a b))) ∧ Below w.heap.size w w' := by
  have f1 : decide (0 ≤ a) = false := by simp; omega
  have f2 : decide (a < 0) = true := by simp; omega
  have f3 : decide (0 ≤ b) = false := by simp; omega
  have f4 : decide (b < 0) = true := by simp; omega
  have f5 : decide (wrap32 (a - b) < 0) = false := by simp; omega
  have f6 : decide (0 ≤ wrap32 (a - b)) = true := by simp; omega
  have hn : sub32N a b = false := f5
  have hv : sub32V a b = false := by unfold sub32V; simp; omega
  have H : Hid (en (sub32N a b) (sub32Z a b) (sub32C a b) (sub32V a b) = en false (wrap32 (a - b) == 0) (decide (b % 4294967296 ≤ a % 4294967296)) false) := Lib.hid (by rw [hn, hv]; rfl)
  clear hn hv hA hB hS
  go_enter Try.func36, Try.ntmps36
  go_wp2_with (go_at_call 53; refine (c53 _ _ _ _ _).mono ?_; rintro e w' ⟨rfl, hb⟩)
  go_ret
  exact ⟨by rw [H.out]; rfl, ((Below.refl _ _).alloc (Nat.le_refl _) _).trans (hb.mono (by simp))⟩
theorem c36_1 (a b : Int) (w : World) (hA : 0 ≤ a) (hB : b < 0) (hS : 0 ≤ wrap32 (a - b)) :
    Calls Try.prog 36 #[.int .i32 a, .int .i32 b] w fun e w' => e = .returned (.int .u8 (en (sub32N a b) (sub32Z a b) (sub32C a b) (sub32V a b))) ∧ Below w.heap.size w w' := by
  have f1 : decide (0 ≤ a) = true := by simp; omega
  have f2 : decide (a < 0) = false := by simp; omega
  have f3 : decide (0 ≤ b) = false := by simp; omega
  have f4 : decide (b < 0) = true := by simp; omega
  have f5 : decide (wrap32 (a - b) < 0) = false := by simp; omega
  have f6 : decide (0 ≤ wrap32 (a - b)) = true := by simp; omega
  have hn : sub32N a b = false := f5
  have hv : sub32V a b = false := by unfold sub32V; simp; omega
  have H : Hid (en (sub32N a b) (sub32Z a b) (sub32C a b) (sub32V a b) = en false (wrap32 (a - b) == 0) (decide (b % 4294967296 ≤ a % 4294967296)) false) := Lib.hid (by rw [hn, hv]; rfl)
  clear hn hv hA hB hS
  go_enter Try.func36, Try.ntmps36
  go_wp2_with (go_at_call 53; refine (c53 _ _ _ _ _).mono ?_; rintro e w' ⟨rfl, hb⟩)
  go_ret
  exact ⟨by rw [H.out]; rfl, ((Below.refl _ _).alloc (Nat.le_refl _) _).trans (hb.mono (by simp))⟩
theorem c36_2 (a b : Int) (w : World) (hA : a < 0) (hB : 0 ≤ b) (hS : 0 ≤ wrap32 (a - b)) :
    Calls Try.prog 36 #[.int .i32 a, .int .i32 b] w fun e w' => e = .returned (.int .u8 (en (sub32N a b) (sub32Z a b) (sub32C a b) (sub32V a b))) ∧ Below w.heap.size w w' := by
  have f1 : decide (0 ≤ a) = false := by simp; omega
  have f2 : decide (a < 0) = true := by simp; omega
  have f3 : decide (0 ≤ b) = true := by simp; omega
  have f4 : decide (b < 0) = false := by simp; omega
  have f5 : decide (wrap32 (a - b) < 0) = false := by simp; omega
  have f6 : decide (0 ≤ wrap32 (a - b)) = true := by simp; omega
  have hn : sub32N a b = false := f5
  have hv : sub32V a b = true := by unfold sub32V; simp; omega
  have H : Hid (en (sub32N a b) (sub32Z a b) (sub32C a b) (sub32V a b) = en false (wrap32 (a - b) == 0) (decide (b % 4294967296 ≤ a % 4294967296)) true) := Lib.hid (by rw [hn, hv]; rfl)
  clear hn hv hA hB hS
  go_enter Try.func36, Try.ntmps36
  go_wp2_with (go_at_call 53; refine (c53 _ _ _ _ _).mono ?_; rintro e w' ⟨rfl, hb⟩)
  go_ret
  exact ⟨by rw [H.out]; rfl, ((Below.refl _ _).alloc (Nat.le_refl _) _).trans (hb.mono (by simp))⟩
theorem c36_3 (a b : Int) (w : World) (hA : 0 ≤ a) (hB : 0 ≤ b) (hS : 0 ≤ wrap32 (a - b)) :
    Calls Try.prog 36 #[.int .i32 a, .int .i32 b] w fun e w' => e = .returned (.int .u8 (en (sub32N a b) (sub32Z a b) (sub32C a b) (sub32V a b))) ∧ Below w.heap.size w w' := by
  have f1 : decide (0 ≤ a) = true := by simp; omega
  have f2 : decide (a < 0) = false := by simp; omega
  have f3 : decide (0 ≤ b) = true := by simp; omega
  have f4 : decide (b < 0) = false := by simp; omega
  have f5 : decide (wrap32 (a - b) < 0) = false := by simp; omega
  have f6 : decide (0 ≤ wrap32 (a - b)) = true := by simp; omega
  have hn : sub32N a b = false := f5
  have hv : sub32V a b = false := by unfold sub32V; simp; omega
  have H : Hid (en (sub32N a b) (sub32Z a b) (sub32C a b) (sub32V a b) = en false (wrap32 (a - b) == 0) (decide (b % 4294967296 ≤ a % 4294967296)) false) := Lib.hid (by rw [hn, hv]; rfl)
  clear hn hv hA hB hS
  go_enter Try.func36, Try.ntmps36
  go_wp2_with (go_at_call 53; refine (c53 _ _ _ _ _).mono ?_; rintro e w' ⟨rfl, hb⟩)
  go_ret
  exact ⟨by rw [H.out]; rfl, ((Below.refl _ _).alloc (Nat.le_refl _) _).trans (hb.mono (by simp))⟩
theorem c36_4 (a b : Int) (w : World) (hA : a < 0) (hB : b < 0) (hS : wrap32 (a - b) < 0) :
    Calls Try.prog 36 #[.int .i32 a, .int .i32 b] w fun e w' => e = .returned (.int .u8 (en (sub32N a b) (sub32Z a b) (sub32C a b) (sub32V a b))) ∧ Below w.heap.size w w' := by
  have f1 : decide (0 ≤ a) = false := by simp; omega
  have f2 : decide (a < 0) = true := by simp; omega
  have f3 : decide (0 ≤ b) = false := by simp; omega
  have f4 : decide (b < 0) = true := by simp; omega
  have f5 : decide (wrap32 (a - b) < 0) = true := by simp; omega
  have f6 : decide (0 ≤ wrap32 (a - b)) = false := by simp; omega
  have hn : sub32N a b = true := f5
  have hv : sub32V a b = false := by unfold sub32V; simp; omega
  have H : Hid (en (sub32N a b) (sub32Z a b) (sub32C a b) (sub32V a b) = en true (wrap32 (a - b) == 0) (decide (b % 4294967296 ≤ a % 4294967296)) false) := Lib.hid (by rw [hn, hv]; rfl)
  clear hn hv hA hB hS
  go_enter Try.func36, Try.ntmps36
  go_wp2_with (go_at_call 53; refine (c53 _ _ _ _ _).mono ?_; rintro e w' ⟨rfl, hb⟩)
  go_ret
  exact ⟨by rw [H.out]; rfl, ((Below.refl _ _).alloc (Nat.le_refl _) _).trans (hb.mono (by simp))⟩
theorem c36_5 (a b : Int) (w : World) (hA : 0 ≤ a) (hB : b < 0) (hS : wrap32 (a - b) < 0) :
    Calls Try.prog 36 #[.int .i32 a, .int .i32 b] w fun e w' => e = .returned (.int .u8 (en (sub32N a b) (sub32Z a b) (sub32C a b) (sub32V a b))) ∧ Below w.heap.size w w' := by
  have f1 : decide (0 ≤ a) = true := by simp; omega
  have f2 : decide (a < 0) = false := by simp; omega
  have f3 : decide (0 ≤ b) = false := by simp; omega
  have f4 : decide (b < 0) = true := by simp; omega
  have f5 : decide (wrap32 (a - b) < 0) = true := by simp; omega
  have f6 : decide (0 ≤ wrap32 (a - b)) = false := by simp; omega
  have hn : sub32N a b = true := f5
  have hv : sub32V a b = true := by unfold sub32V; simp; omega
  have H : Hid (en (sub32N a b) (sub32Z a b) (sub32C a b) (sub32V a b) = en true (wrap32 (a - b) == 0) (decide (b % 4294967296 ≤ a % 4294967296)) true) := Lib.hid (by rw [hn, hv]; rfl)
  clear hn hv hA hB hS
  go_enter Try.func36, Try.ntmps36
  go_wp2_with (go_at_call 53; refine (c53 _ _ _ _ _).mono ?_; rintro e w' ⟨rfl, hb⟩)
  go_ret
  exact ⟨by rw [H.out]; rfl, ((Below.refl _ _).alloc (Nat.le_refl _) _).trans (hb.mono (by simp))⟩
theorem c36_6 (a b : Int) (w : World) (hA : a < 0) (hB : 0 ≤ b) (hS : wrap32 (a - b) < 0) :
    Calls Try.prog 36 #[.int .i32 a, .int .i32 b] w fun e w' => e = .returned (.int .u8 (en (sub32N a b) (sub32Z a b) (sub32C a b) (sub32V a b))) ∧ Below w.heap.size w w' := by
  have f1 : decide (0 ≤ a) = false := by simp; omega
  have f2 : decide (a < 0) = true := by simp; omega
  have f3 : decide (0 ≤ b) = true := by simp; omega
  have f4 : decide (b < 0) = false := by simp; omega
  have f5 : decide (wrap32 (a - b) < 0) = true := by simp; omega
  have f6 : decide (0 ≤ wrap32 (a - b)) = false := by simp; omega
  have hn : sub32N a b = true := f5
  have hv : sub32V a b = false := by unfold sub32V; simp; omega
  have H : Hid (en (sub32N a b) (sub32Z a b) (sub32C a b) (sub32V a b) = en true (wrap32 (a - b) == 0) (decide (b % 4294967296 ≤ a % 4294967296)) false) := Lib.hid (by rw [hn, hv]; rfl)
  clear hn hv hA hB hS
  go_enter Try.func36, Try.ntmps36
  go_wp2_with (go_at_call 53; refine (c53 _ _ _ _ _).mono ?_; rintro e w' ⟨rfl, hb⟩)
  go_ret
  exact ⟨by rw [H.out]; rfl, ((Below.refl _ _).alloc (Nat.le_refl _) _).trans (hb.mono (by simp))⟩
theorem c36_7 (a b : Int) (w : World) (hA : 0 ≤ a) (hB : 0 ≤ b) (hS : wrap32 (a - b) < 0) :
    Calls Try.prog 36 #[.int .i32 a, .int .i32 b] w fun e w' => e = .returned (.int .u8 (en (sub32N a b) (sub32Z a b) (sub32C a b) (sub32V a b))) ∧ Below w.heap.size w w' := by
  have f1 : decide (0 ≤ a) = true := by simp; omega
  have f2 : decide (a < 0) = false := by simp; omega
  have f3 : decide (0 ≤ b) = true := by simp; omega
  have f4 : decide (b < 0) = false := by simp; omega
  have f5 : decide (wrap32 (a - b) < 0) = true := by simp; omega
  have f6 : decide (0 ≤ wrap32 (a - b)) = false := by simp; omega
  have hn : sub32N a b = true := f5
  have hv : sub32V a b = false := by unfold sub32V; simp; omega
  have H : Hid (en (sub32N a b) (sub32Z a b) (sub32C a b) (sub32V a b) = en true (wrap32 (a - b) == 0) (decide (b % 4294967296 ≤ a % 4294967296)) false) := Lib.hid (by rw [hn, hv]; rfl)
  clear hn hv hA hB hS
  go_enter Try.func36, Try.ntmps36
  go_wp2_with (go_at_call 53; refine (c53 _ _ _ _ _).mono ?_; rintro e w' ⟨rfl, hb⟩)
  go_ret
  exact ⟨by rw [H.out]; rfl, ((Below.refl _ _).alloc (Nat.le_refl _) _).trans (hb.mono (by simp))⟩
theorem c36 (a b : Int) (w : World) :
    Calls Try.prog 36 #[.int .i32 a, .int .i32 b] w fun e w' => e = .returned (.int .u8 (en (sub32N a b) (sub32Z a b) (sub32C a b) (sub32V a b))) ∧ Below w.heap.size w w' := by
  by_cases hA : 0 ≤ a <;> by_cases hB : 0 ≤ b <;> by_cases hS : wrap32 (a - b) < 0
  · exact c36_7 a b w hA hB hS
  · exact c36_3 a b w hA hB (by omega)
  · exact c36_5 a b w hA (by omega) hS
  · exact c36_1 a b w hA (by omega) (by omega)
  · exact c36_6 a b w (by omega) hB hS
  · exact c36_2 a b w (by omega) hB (by omega)
  · exact c36_4 a b w (by omega) (by omega) hS
  · exact c36_0 a b w (by omega) (by omega) (by omega)
theorem c14 (a b : Int) (w : World) :
    Calls Try.prog 14 #[.int .i32 a, .int .i32 b] w fun e w' => e = .returned (.int .u8 (en (sub32N a b) (sub32Z a b) (sub32C a b) (sub32V a b))) ∧ Below w.heap.size w w' := by
  go_enter Try.func14, Try.ntmps14
  go_wp2_with (go_at_call 36; refine (c36 _ _ _).mono ?_; rintro e w' ⟨rfl, hb⟩)
  go_ret
  exact ⟨rfl, hb⟩
theorem c9 (a b : Int) (w : World) :
    Calls Try.prog 9 #[.int .i32 a, .int .i32 b] w fun e w' => e = .returned (.agg #[.bool (sub32N a b), .bool (sub32Z a b), .bool (sub32C a b), .bool (sub32V a b), .bool (sub32Z a b), .bool (!(sub32Z a b)), .bool ((sub32N a b) != (sub32V a b)), .bool ((sub32Z a b) || ((sub32N a b) != (sub32V a b))), .bool (!(sub32Z a b) && ((sub32N a b) == (sub32V a b))), .bool ((sub32N a b) == (sub32V a b)), .bool (!(sub32C a b)), .bool ((sub32Z a b) || !(sub32C a b)), .bool (!(sub32Z a b) && (sub32C a b)), .bool (sub32C a b), .bool (((sub32N a b) != (sub32V a b)) && !(sub32V a b)), .bool (((sub32Z a b) || ((sub32N a b) != (sub32V a b))) && !(sub32V a b)), .bool ((!(sub32Z a b) && ((sub32N a b) == (sub32V a b))) && !(sub32V a b)), .bool (((sub32N a b) == (sub32V a b)) && !(sub32V a b))]) ∧ Below w.heap.size w w' := by
  have hnew := blk_new w (.cells #[.bool false, .bool false, .bool false, .bool false, .bool false, .bool false, .bool false, .bool false, .bool false, .bool false, .bool false, .bool false, .bool false, .bool false, .bool false, .bool false, .bool false, .bool false] 23)
  go_enter Try.func9, Try.ntmps9
  go_wp2_with (first
    | (go_at_call 14; refine (c14 _ _ _).mono ?_; rintro e w1 ⟨rfl, hb⟩; have hg1 := blk_below hnew hb)
    | (go_at_call 12; refine (c12 _ _ _ _ _).mono ?_; rintro e w2 ⟨rfl, hc⟩; have hg2 := blk_below hg1 hc)
    | (refine wpList_store_row rfl 23 _ _ rfl w.heap.size #[.bool (sub32N a b), .bool (sub32Z a b), .bool (sub32C a b), .bool (sub32V a b), .bool (sub32Z a b), .bool (!(sub32Z a b)), .bool ((sub32N a b) != (sub32V a b)), .bool ((sub32Z a b) || ((sub32N a b) != (sub32V a b))), .bool (!(sub32Z a b) && ((sub32N a b) == (sub32V a b))), .bool ((sub32N a b) == (sub32V a b)), .bool (!(sub32C a b)), .bool ((sub32Z a b) || !(sub32C a b)), .bool (!(sub32Z a b) && (sub32C a b)), .bool (sub32C a b), .bool (((sub32N a b) != (sub32V a b)) && !(sub32V a b)), .bool (((sub32Z a b) || ((sub32N a b) != (sub32V a b))) && !(sub32V a b)), .bool ((!(sub32Z a b) && ((sub32N a b) == (sub32V a b))) && !(sub32V a b)), .bool (((sub32N a b) == (sub32V a b)) && !(sub32V a b))] rfl rfl 23 _ hg2 (by kernel_rfl) rfl (by simp [Value.oneCell']) ?_))
  refine bodyPost_ret (results_cell_row rfl _ _ w.heap.size 23 #[.bool (sub32N a b), .bool (sub32Z a b), .bool (sub32C a b), .bool (sub32V a b), .bool (sub32Z a b), .bool (!(sub32Z a b)), .bool ((sub32N a b) != (sub32V a b)), .bool ((sub32Z a b) || ((sub32N a b) != (sub32V a b))), .bool (!(sub32Z a b) && ((sub32N a b) == (sub32V a b))), .bool ((sub32N a b) == (sub32V a b)), .bool (!(sub32C a b)), .bool ((sub32Z a b) || !(sub32C a b)), .bool (!(sub32Z a b) && (sub32C a b)), .bool (sub32C a b), .bool (((sub32N a b) != (sub32V a b)) && !(sub32V a b)), .bool (((sub32Z a b) || ((sub32N a b) != (sub32V a b))) && !(sub32V a b)), .bool ((!(sub32Z a b) && ((sub32N a b) == (sub32V a b))) && !(sub32V a b)), .bool (((sub32N a b) == (sub32V a b)) && !(sub32V a b))] (0, 0) _ rfl (setRow_heap _ _ _ _ _ _ hg2) Try.underlying23 rfl (by kernel_rfl)) rfl ⟨rfl, ?_⟩
  exact below_setRow ((((Below.refl _ _).alloc (Nat.le_refl _) _).trans (hb.mono (by simp))).trans (hc.mono (by have := hb.size; simp at this; omega))) (Nat.le_refl _) _
end Go.Proofs.Ytdchpmohaiiicaa.Fl
