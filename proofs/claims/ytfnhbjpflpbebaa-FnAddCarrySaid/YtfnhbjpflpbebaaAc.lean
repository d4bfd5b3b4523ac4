/- FnAddCarry: a sum of two words with a carry, 0 or 1, and its own carry; no condition. The walks, over the model's own entry for math/bits.Add64. -/
import Derived.Test.YtfnhbjpflpbebaaPFnAddCarryx1
import Derived.Test.YtfnhbjpflpbebaaKit
import Derived.Laws.Externs
import Derived.Lib.Hide
import Derived.Deep.QuietTactic
import Derived.BigQuiet
import Derived.WalkSmall
namespace Go.Proofs.Ytfnhbjpflpbebaa.Ac
open Go.RowKit Go.Proofs.YtfnhbjpflpbebaaW.PrintWords Go.Proofs.YtfnhbjpflpbebaaW.PrintLast Go.Proofs.Ytfnhbjpflpbebaa.Kit Go.Proofs.Ytfnhbjpflpbebaa.PFnAddCarry
theorem add_run (x y c : Nat) (hc : c ≤ 1) (hx : x < 18446744073709551616) (hy : y < 18446744073709551616) (w : World) :
    (callFunc 72 #[.int .u64 (x : Int), .int .u64 (y : Int), .int .u64 (c : Int)]).run Try.prog w =
      .ok (.value (.tuple #[.int .u64 (((x + y + c) % 18446744073709551616 : Nat) : Int), .int .u64 (((x + y + c) / 18446744073709551616 : Nat) : Int)])) w := by
  rw [run_callFunc_extern Try.func72 (by kernel_rfl) (by kernel_rfl) (by kernel_rfl) (e := add64Entry) (by kernel_rfl), run_add64 x y c (by omega) (by omega) (by omega) (by omega)]
  simp only [Result.andThen]
  congr 5 <;> omega
def sm (X Y c : Nat) : Int := wrap64 (((X + Y + c) % 18446744073709551616 : Nat) : Int)
def ov (X Y c : Nat) : Int := (((X + Y + c) / 18446744073709551616 : Nat) : Int)
set_option maxRecDepth 100000 in
theorem c53 (x y : Int) (X Y c : Nat) (hX : IntKind.u64.wrap x = (X : Int)) (hY : IntKind.u64.wrap y = (Y : Int)) (hc : c ≤ 1) (w : World) :
    Calls Try.prog 53 #[.int .i64 x, .int .i64 y, .int .i64 (c : Int)] w fun e w' => e = .returned (.agg #[.int .i64 (sm X Y c), .int .i64 (ov X Y c)]) ∧ Below w.heap.size w w' := by
  have hXl : X < 18446744073709551616 := by rw [wu64m] at hX; omega
  have hYl : Y < 18446744073709551616 := by rw [wu64m] at hY; omega
  have hrun : ∀ w, (callFunc 72 #[.int .u64 (IntKind.u64.wrap x), .int .u64 (IntKind.u64.wrap y), .int .u64 (c : Int)]).run Try.prog w =
      .ok (.value (.tuple #[.int .u64 (((X + Y + c) % 18446744073709551616 : Nat) : Int), .int .u64 (((X + Y + c) / 18446744073709551616 : Nat) : Int)])) w := fun w => by
    rw [hX, hY]; exact add_run X Y c hc hXl hYl w
  have hc' : (c : Int) ≤ 1 := by omega
  have ho : (((X + Y + c) / 18446744073709551616 : Nat) : Int) ≤ 1 := by omega
  have S : Hid (sm X Y c = wrap64 (((X + Y + c) % 18446744073709551616 : Nat) : Int)) := Lib.hid rfl
  have O : Hid (ov X Y c = (((X + Y + c) / 18446744073709551616 : Nat) : Int)) := Lib.hid rfl
  generalize (((X + Y + c) % 18446744073709551616 : Nat) : Int) = s1 at *
  have ho0 : (0 : Int) ≤ (((X + Y + c) / 18446744073709551616 : Nat) : Int) := Int.natCast_nonneg _
  generalize (((X + Y + c) / 18446744073709551616 : Nat) : Int) = s2 at *
  clear hX hY hXl hYl
  go_enter Try.func53, Try.ntmps53
  go_wp2
  exact bodyPost_ret (v := .agg #[.int .i64 (wrap64 s1), .int .i64 s2]) (by simp [results, Try.results53, go_sem]) rfl ⟨by rw [S.out, O.out], (Below.refl _ _).alloc (Nat.le_refl _) _⟩
theorem c33 (x y : Int) (X Y c : Nat) (hX : IntKind.u64.wrap x = (X : Int)) (hY : IntKind.u64.wrap y = (Y : Int)) (hc : c ≤ 1) (w : World) :
    Calls Try.prog 33 #[.int .i64 x, .int .i64 y, .int .i64 (c : Int)] w fun e w' => e = .returned (.tuple #[.int .i64 (sm X Y c), .int .i64 (ov X Y c)]) ∧ Below w.heap.size w w' := by
  have HX := Lib.hid hX
  have HY := Lib.hid hY
  have HC := Lib.hid hc
  clear hX hY hc
  go_enter Try.func33, Try.ntmps33
  go_wp2_with (go_at_call 53; refine (c53 _ _ X Y c HX.out HY.out HC.out _).mono ?_; rintro e w' ⟨rfl, hb⟩)
  go_quiet (fail)
  go_wp2
  go_ret2
  exact ⟨rfl, below_drewN (hb.alloc hb.size _) _⟩
theorem c10 (x y : Int) (X Y c : Nat) (hX : IntKind.u64.wrap x = (X : Int)) (hY : IntKind.u64.wrap y = (Y : Int)) (hc : c ≤ 1) (w : World) :
    Calls Try.prog 10 #[.int .i64 x, .int .i64 y, .int .i64 (c : Int)] w fun e w' => e = .returned (.tuple #[.int .i64 (sm X Y c), .int .i64 (ov X Y c)]) ∧ Below w.heap.size w w' := by
  have HX := Lib.hid hX
  have HY := Lib.hid hY
  have HC := Lib.hid hc
  clear hX hY hc
  go_enter Try.func10, Try.ntmps10
  go_wp2_with (go_at_call 33; refine (c33 _ _ X Y c HX.out HY.out HC.out _).mono ?_; rintro e w' ⟨rfl, hb⟩)
  go_ret2
  exact ⟨rfl, hb⟩
theorem uadd : impl_UaddOvf.f (-1) 1 = some true := by decide +kernel
theorem sm_any0 (x y : Int) (X Y c : Nat) (hX : IntKind.u64.wrap x = (X : Int)) (hY : IntKind.u64.wrap y = (Y : Int)) : sm X Y c = wrap64 (x + y + c) := by
  unfold sm
  have e : (((X + Y + c) % 18446744073709551616 : Nat) : Int) = IntKind.u64.wrap (x + y + c) := by
    rw [wu64m] at hX hY ⊢
    have : (((X + Y + c) % 18446744073709551616 : Nat) : Int) = ((X : Int) + (Y : Int) + (c : Int)) % 18446744073709551616 := by omega
    rw [this, ← hX, ← hY, Int.add_assoc, Int.emod_add_emod, Int.add_comm (y % 18446744073709551616), ← Int.add_assoc, Int.add_emod_emod]
    congr 1; omega
  rw [e, wrap64_wu64]
theorem sm_any (x y : Int) (X Y c : Nat) (hX : IntKind.u64.wrap x = (X : Int)) (hY : IntKind.u64.wrap y = (Y : Int)) : sm X Y c = wrap64 (wrap64 (x + y) + c) := by
  rw [sm_any0 x y X Y c hX hY]
  have h : ∀ z : Int, wrap64 (IntKind.u64.wrap z) = wrap64 z := wrap64_wu64
  rw [← h (x + y + c), ← h (wrap64 (x + y) + c)]
  congr 1
  have e : IntKind.u64.wrap (wrap64 (x + y)) = IntKind.u64.wrap (x + y) := wu64_wrap64 _
  rw [wu64m, wu64m] at e
  rw [wu64m, wu64m, ← Int.emod_add_emod (x + y), ← Int.emod_add_emod (wrap64 (x + y)), e]
/-- the carry as the law reckons it. -/
def car (x y : Int) (carry : Bool) : Bool := decide (IntKind.u64.wrap (IntKind.u64.wrap x + IntKind.u64.wrap y) < IntKind.u64.wrap x) || (carry && (IntKind.u64.wrap (IntKind.u64.wrap x + IntKind.u64.wrap y) == 18446744073709551615))
theorem ov_any (x y : Int) (X Y : Nat) (carry : Bool) (hX : IntKind.u64.wrap x = (X : Int)) (hY : IntKind.u64.wrap y = (Y : Int)) :
    ov X Y (if carry then 1 else 0) = if car x y carry then 1 else 0 := by
  have hXl : X < 18446744073709551616 := by rw [wu64m] at hX; omega
  have hYl : Y < 18446744073709551616 := by rw [wu64m] at hY; omega
  unfold car ov
  rw [hX, hY, wu64m ((X : Int) + (Y : Int))]
  cases carry
  · simp only [Bool.false_and, Bool.or_false, Bool.false_eq_true, if_false, decide_eq_true_eq]
    split <;> omega
  · simp only [Bool.true_and, if_true, Bool.or_eq_true, decide_eq_true_eq, beq_iff_eq]
    split <;> omega
set_option maxRecDepth 100000 in
theorem law_true (x y : Int) (W : World) : Calls Try.prog 3 #[.int .i64 x, .int .i64 y, .bool true] W fun e W' => e = .returned (.bool true) ∧ Below W.heap.size W W' := by
  obtain ⟨X, hX⟩ : ∃ X : Nat, IntKind.u64.wrap x = (X : Int) := ⟨(IntKind.u64.wrap x).toNat, by rw [wu64m]; omega⟩
  obtain ⟨Y, hY⟩ : ∃ Y : Nat, IntKind.u64.wrap y = (Y : Int) := ⟨(IntKind.u64.wrap y).toNat, by rw [wu64m]; omega⟩
  have hs : sm X Y 1 = wrap64 (wrap64 (x + y) + 1) := sm_any x y X Y 1 hX hY
  have ho : ov X Y 1 = if car x y true then 1 else 0 := ov_any x y X Y true hX hY
  have HS := Lib.hid hs
  have HO := Lib.hid ho
  have HX := Lib.hid hX
  have HY := Lib.hid hY
  have HU := Lib.hid uadd
  have h10 : ∀ w, Calls Try.prog 10 #[.int .i64 x, .int .i64 y, .int .i64 1] w fun e w' => e = .returned (.tuple #[.int .i64 (wrap64 (wrap64 (x + y) + 1)), .int .i64 (if car x y true then 1 else 0)]) ∧ Below w.heap.size w w' := fun w =>
    (c10 x y X Y 1 HX.out HY.out (by decide) w).mono (fun e w' ⟨h1, h2⟩ => ⟨by rw [h1, HS.out, HO.out], h2⟩)
  clear hs ho hX hY
  cases hc : car x y true with
  | true =>
    have H10 : Hid (∀ w, Calls Try.prog 10 #[.int .i64 x, .int .i64 y, .int .i64 1] w fun e w' => e = .returned (.tuple #[.int .i64 (wrap64 (wrap64 (x + y) + 1)), .int .i64 1]) ∧ Below w.heap.size w w') := Lib.hid (by rw [hc] at h10; exact h10)
    have HC := Lib.hid hc
    clear h10 hc
    go_enter Try.func3, Try.ntmps3
    go_wp2_with (first
      | (go_at_call 10; refine (H10.out _).mono ?_; rintro e w' ⟨rfl, hb⟩)
      | (go_at_call 11; refine (impl_UaddOvf.calls _ _ _ _ HU.out).mono ?_; rintro e w' ⟨rfl, ⟨nd, rfl⟩⟩))
    all_goals (go_ret; refine ⟨?_, by first | exact hb | exact below_drewN hb _⟩; have h := HC.out; unfold car at h; clear HC H10 HS HO HX HY HU; simp at h; first | (simp_all; done) | (simp_all; omega))
  | false =>
    have H10 : Hid (∀ w, Calls Try.prog 10 #[.int .i64 x, .int .i64 y, .int .i64 1] w fun e w' => e = .returned (.tuple #[.int .i64 (wrap64 (wrap64 (x + y) + 1)), .int .i64 0]) ∧ Below w.heap.size w w') := Lib.hid (by rw [hc] at h10; exact h10)
    have HC := Lib.hid hc
    clear h10 hc
    go_enter Try.func3, Try.ntmps3
    go_wp2_with (first
      | (go_at_call 10; refine (H10.out _).mono ?_; rintro e w' ⟨rfl, hb⟩)
      | (go_at_call 11; refine (impl_UaddOvf.calls _ _ _ _ HU.out).mono ?_; rintro e w' ⟨rfl, ⟨nd, rfl⟩⟩))
    all_goals (go_ret; refine ⟨?_, by first | exact hb | exact below_drewN hb _⟩; have h := HC.out; unfold car at h; clear HC H10 HS HO HX HY HU; simp at h; first | (simp_all; done) | (simp_all; omega))
set_option maxRecDepth 100000 in
theorem law_false (x y : Int) (W : World) : Calls Try.prog 3 #[.int .i64 x, .int .i64 y, .bool false] W fun e W' => e = .returned (.bool true) ∧ Below W.heap.size W W' := by
  obtain ⟨X, hX⟩ : ∃ X : Nat, IntKind.u64.wrap x = (X : Int) := ⟨(IntKind.u64.wrap x).toNat, by rw [wu64m]; omega⟩
  obtain ⟨Y, hY⟩ : ∃ Y : Nat, IntKind.u64.wrap y = (Y : Int) := ⟨(IntKind.u64.wrap y).toNat, by rw [wu64m]; omega⟩
  have hs : sm X Y 0 = wrap64 (wrap64 (x + y) + 0) := sm_any x y X Y 0 hX hY
  have ho : ov X Y 0 = if car x y false then 1 else 0 := ov_any x y X Y false hX hY
  have HS := Lib.hid hs
  have HO := Lib.hid ho
  have HX := Lib.hid hX
  have HY := Lib.hid hY
  have HU := Lib.hid uadd
  have h10 : ∀ w, Calls Try.prog 10 #[.int .i64 x, .int .i64 y, .int .i64 0] w fun e w' => e = .returned (.tuple #[.int .i64 (wrap64 (wrap64 (x + y))), .int .i64 (if car x y false then 1 else 0)]) ∧ Below w.heap.size w w' := fun w =>
    (c10 x y X Y 0 HX.out HY.out (by decide) w).mono (fun e w' ⟨h1, h2⟩ => ⟨by rw [h1, HS.out, Int.add_zero, HO.out], h2⟩)
  clear hs ho hX hY
  obtain ⟨s, hs⟩ : ∃ s, s = wrap64 (wrap64 (x + y)) := ⟨_, rfl⟩
  rw [← hs] at h10
  have HSS := Lib.hid hs
  clear hs
  cases hc : car x y false with
  | true =>
    have H10 : Hid (∀ w, Calls Try.prog 10 #[.int .i64 x, .int .i64 y, .int .i64 0] w fun e w' => e = .returned (.tuple #[.int .i64 s, .int .i64 1]) ∧ Below w.heap.size w w') := Lib.hid (by rw [hc] at h10; exact h10)
    have HC := Lib.hid hc
    clear h10 hc
    go_enter Try.func3, Try.ntmps3
    go_wp2_with (first
      | (go_at_call 10; refine (H10.out _).mono ?_; rintro e w' ⟨rfl, hb⟩)
      | (go_at_call 11; refine (impl_UaddOvf.calls _ _ _ _ HU.out).mono ?_; rintro e w' ⟨rfl, ⟨nd, rfl⟩⟩))
    all_goals (go_ret; refine ⟨?_, by first | exact hb | exact below_drewN hb _⟩; have h := HC.out; have hss := HSS.out; clear HSS; unfold car at h; clear HC H10 HS HO HX HY HU; simp at h; first | (simp_all; done) | (simp_all; omega))
  | false =>
    have H10 : Hid (∀ w, Calls Try.prog 10 #[.int .i64 x, .int .i64 y, .int .i64 0] w fun e w' => e = .returned (.tuple #[.int .i64 s, .int .i64 0]) ∧ Below w.heap.size w w') := Lib.hid (by rw [hc] at h10; exact h10)
    have HC := Lib.hid hc
    clear h10 hc
    go_enter Try.func3, Try.ntmps3
    go_wp2_with (first
      | (go_at_call 10; refine (H10.out _).mono ?_; rintro e w' ⟨rfl, hb⟩)
      | (go_at_call 11; refine (impl_UaddOvf.calls _ _ _ _ HU.out).mono ?_; rintro e w' ⟨rfl, ⟨nd, rfl⟩⟩))
    all_goals (go_ret; refine ⟨?_, by first | exact hb | exact below_drewN hb _⟩; have h := HC.out; have hss := HSS.out; clear HSS; unfold car at h; clear HC H10 HS HO HX HY HU; simp at h; first | (simp_all; done) | (simp_all; omega))
theorem walk (x y : Int) (carry : Bool) (W : World) (_ : (Lit.int IntKind.i64 x).wf = true) (_ : (Lit.int IntKind.i64 y).wf = true) : Calls Try.prog 3 #[.int .i64 x, .int .i64 y, .bool carry] W fun e W' => e = .returned (.bool true) ∧ Below W.heap.size W W' := by
  cases carry
  · exact law_false x y W
  · exact law_true x y W
end Go.Proofs.Ytfnhbjpflpbebaa.Ac
