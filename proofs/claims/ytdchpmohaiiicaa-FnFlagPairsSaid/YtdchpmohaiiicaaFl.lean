/- The flags behind sums, differences and logical operations: what each function of the package and of the thin package returns, for all numbers; no condition. -/
import Derived.Test.YtdchpmohaiiicaaPFnSubFlags32x1
import Derived.Test.YtdchpmohaiiicaaKit
import Derived.Lib.Hide
import Derived.Laws.Tables
import Derived.Laws.CopyOwn
namespace Go.Proofs.Ytdchpmohaiiicaa.Fl
open Go.RowKit Go.Proofs.YtdchpmohaiiicaaW.PrintWords Go.Proofs.YtdchpmohaiiicaaW.PrintLast Go.Proofs.Ytdchpmohaiiicaa.Kit Go.Proofs.Ytdchpmohaiiicaa.PFnSubFlags32

/-- the four flags in one number. -/
def en (n z c v : Bool) : Int := (if n then 1 else 0) + (if z then 2 else 0) + (if c then 4 else 0) + (if v then 8 else 0)
theorem flags_f (n z c v : Bool) : impl_flags.f (en n z c v) = some (n, z, c, v, z, !z, (n != v), (z || (n != v)), (!z && (n == v)), (n == v), !c, (z || !c), (!z && c), c, ((n != v) && !v), ((z || (n != v)) && !v), ((!z && (n == v)) && !v), ((n == v) && !v)) := by
  cases n <;> cases z <;> cases c <;> cases v <;> kernel_rfl
theorem c12 (n z c v : Bool) (w : World) : Calls Try.prog 12 #[.int .u8 (en n z c v)] w fun e w' => e = .returned (.agg #[.bool n, .bool z, .bool c, .bool v, .bool z, .bool (!z), .bool (n != v), .bool (z || (n != v)), .bool (!z && (n == v)), .bool (n == v), .bool (!c), .bool (z || !c), .bool (!z && c), .bool c, .bool ((n != v) && !v), .bool ((z || (n != v)) && !v), .bool ((!z && (n == v)) && !v), .bool ((n == v) && !v)]) ∧ Below w.heap.size w w' :=
  impl_flags.calls _ _ _ _ _ _ _ _ _ _ _ _ _ _ _ _ _ _ _ w (flags_f n z c v)
theorem c53 (n z c v : Bool) (w : World) : Calls Try.prog 53 #[.agg #[.bool n, .bool z, .bool c, .bool v]] w fun e w' => e = .returned (.int .u8 (en n z c v)) ∧ Below w.heap.size w w' := by
  cases n <;> cases z <;> cases c <;> cases v
  all_goals
    go_enter Try.func53, Try.ntmps53
    go_wp2
    go_ret
    exact ⟨rfl, (Below.refl _ _).alloc (Nat.le_refl _) _⟩

def logN (a : Int) : Bool := decide (a < 0)
def logZ (a : Int) : Bool := a == 0
def logC (_ : Int) : Bool := false
def logV (_ : Int) : Bool := false
theorem c38 (a : Int) (w : World) : Calls Try.prog 38 #[.int .i64 a] w fun e w' => e = .returned (.int .u8 (en (logN a) (logZ a) (logC a) (logV a))) ∧ Below w.heap.size w w' := by
  go_enter Try.func38, Try.ntmps38
  go_wp2_with (go_at_call 53; refine (c53 _ _ _ _ _).mono ?_; rintro e w' ⟨rfl, hb⟩)
  go_ret
  exact ⟨rfl, ((Below.refl _ _).alloc (Nat.le_refl _) _).trans (hb.mono (by simp))⟩
theorem c16 (a : Int) (w : World) : Calls Try.prog 16 #[.int .i64 a] w fun e w' => e = .returned (.int .u8 (en (logN a) (logZ a) (logC a) (logV a))) ∧ Below w.heap.size w w' := by
  go_enter Try.func16, Try.ntmps16
  go_wp2_with (go_at_call 38; refine (c38 _ _).mono ?_; rintro e w' ⟨rfl, hb⟩)
  go_ret
  exact ⟨rfl, hb⟩
theorem c11 (a : Int) (w : World) :
    Calls Try.prog 11 #[.int .i64 a] w fun e w' => e = .returned (.agg #[.bool (logN a), .bool (logZ a), .bool (logC a), .bool (logV a), .bool (logZ a), .bool (!(logZ a)), .bool ((logN a) != (logV a)), .bool ((logZ a) || ((logN a) != (logV a))), .bool (!(logZ a) && ((logN a) == (logV a))), .bool ((logN a) == (logV a)), .bool (!(logC a)), .bool ((logZ a) || !(logC a)), .bool (!(logZ a) && (logC a)), .bool (logC a), .bool (((logN a) != (logV a)) && !(logV a)), .bool (((logZ a) || ((logN a) != (logV a))) && !(logV a)), .bool ((!(logZ a) && ((logN a) == (logV a))) && !(logV a)), .bool (((logN a) == (logV a)) && !(logV a))]) ∧ Below w.heap.size w w' := by
  have hnew := blk_new w (.cells #[.bool false, .bool false, .bool false, .bool false, .bool false, .bool false, .bool false, .bool false, .bool false, .bool false, .bool false, .bool false, .bool false, .bool false, .bool false, .bool false, .bool false, .bool false] 23)
  go_enter Try.func11, Try.ntmps11
  go_wp2_with (first
    | (go_at_call 16; refine (c16 _ _).mono ?_; rintro e w1 ⟨rfl, hb⟩; have hg1 := blk_below hnew hb)
    | (go_at_call 12; refine (c12 _ _ _ _ _).mono ?_; rintro e w2 ⟨rfl, hc⟩; have hg2 := blk_below hg1 hc)
    | (refine wpList_store_row rfl 23 _ _ rfl w.heap.size #[.bool (logN a), .bool (logZ a), .bool (logC a), .bool (logV a), .bool (logZ a), .bool (!(logZ a)), .bool ((logN a) != (logV a)), .bool ((logZ a) || ((logN a) != (logV a))), .bool (!(logZ a) && ((logN a) == (logV a))), .bool ((logN a) == (logV a)), .bool (!(logC a)), .bool ((logZ a) || !(logC a)), .bool (!(logZ a) && (logC a)), .bool (logC a), .bool (((logN a) != (logV a)) && !(logV a)), .bool (((logZ a) || ((logN a) != (logV a))) && !(logV a)), .bool ((!(logZ a) && ((logN a) == (logV a))) && !(logV a)), .bool (((logN a) == (logV a)) && !(logV a))] rfl rfl 23 _ hg2 (by kernel_rfl) rfl (by simp [Value.oneCell']) ?_))
  refine bodyPost_ret (results_cell_row rfl _ _ w.heap.size 23 #[.bool (logN a), .bool (logZ a), .bool (logC a), .bool (logV a), .bool (logZ a), .bool (!(logZ a)), .bool ((logN a) != (logV a)), .bool ((logZ a) || ((logN a) != (logV a))), .bool (!(logZ a) && ((logN a) == (logV a))), .bool ((logN a) == (logV a)), .bool (!(logC a)), .bool ((logZ a) || !(logC a)), .bool (!(logZ a) && (logC a)), .bool (logC a), .bool (((logN a) != (logV a)) && !(logV a)), .bool (((logZ a) || ((logN a) != (logV a))) && !(logV a)), .bool ((!(logZ a) && ((logN a) == (logV a))) && !(logV a)), .bool (((logN a) == (logV a)) && !(logV a))] (0, 0) _ rfl (setRow_heap _ _ _ _ _ _ hg2) Try.underlying23 rfl (by kernel_rfl)) rfl ⟨rfl, ?_⟩
  exact below_setRow ((((Below.refl _ _).alloc (Nat.le_refl _) _).trans (hb.mono (by simp))).trans (hc.mono (by have := hb.size; simp at this; omega))) (Nat.le_refl _) _
end Go.Proofs.Ytdchpmohaiiicaa.Fl
