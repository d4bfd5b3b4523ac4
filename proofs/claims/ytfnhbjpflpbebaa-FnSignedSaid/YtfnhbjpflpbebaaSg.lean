/- FnSigned: a number is told to be a signed one of 32, 20, 16, 12 or 8 bits exactly if it is; no condition. The walks. -/
import Derived.Test.YtfnhbjpflpbebaaProg
import Derived.Test.YtfnhbjpflpbebaaKit
import Derived.WalkKit
import Derived.Lib.Hide
import Derived.Deep.RegionWith
namespace Go.Proofs.Ytfnhbjpflpbebaa.Sg
open Go.RowKit Go.Proofs.Ytfnhbjpflpbebaa.Kit
def inR (lo hi a : Int) : Bool := decide (lo ≤ a ∧ a < hi)
theorem v32 (a : Int) (h0 : -9223372036854775808 ≤ a) (h1 : a ≤ 9223372036854775807) : (a == wrap64 (wrap32 a)) = inR (-2147483648) 2147483648 a := by
  have e : wrap32 a = (a + 2147483648) % 4294967296 - 2147483648 := by unfold wrap32; rfl
  unfold inR
  rw [e, w64 (by omega) (by omega), Bool.eq_iff_iff, beq_iff_eq, decide_eq_true_eq]
  omega
theorem c58 (a : Int) (w : World) (h0 : -9223372036854775808 ≤ a) (h1 : a ≤ 9223372036854775807) : Calls Try.prog 58 #[.int .i64 a] w fun e w' => e = .returned (.bool (inR (-2147483648) 2147483648 a)) ∧ w' = w := by
  have H := Lib.hid (v32 a h0 h1)
  clear h0 h1
  go_enter Try.func58, Try.ntmps58
  go_wp2
  go_ret
  exact ⟨by rw [← H.out]; rfl, rfl⟩
theorem c39 (a : Int) (w : World) (h0 : -9223372036854775808 ≤ a) (h1 : a ≤ 9223372036854775807) : Calls Try.prog 39 #[.int .i64 a] w fun e w' => e = .returned (.bool (inR (-2147483648) 2147483648 a)) ∧ w' = w := by
  have H0 := Lib.hid h0
  have H1 := Lib.hid h1
  clear h0 h1
  go_enter Try.func39, Try.ntmps39
  go_wp2_with (go_at_call 58; refine (c58 _ _ H0.out H1.out).mono ?_; rintro e w' ⟨rfl, rfl⟩)
  go_ret
  exact ⟨rfl, rfl⟩
theorem c19 (a : Int) (w : World) (h0 : -9223372036854775808 ≤ a) (h1 : a ≤ 9223372036854775807) : Calls Try.prog 19 #[.int .i64 a] w fun e w' => e = .returned (.bool (inR (-2147483648) 2147483648 a)) ∧ w' = w := by
  have H0 := Lib.hid h0
  have H1 := Lib.hid h1
  clear h0 h1
  go_enter Try.func19, Try.ntmps19
  go_wp2_with (go_at_call 39; refine (c39 _ _ H0.out H1.out).mono ?_; rintro e w' ⟨rfl, rfl⟩)
  go_ret
  exact ⟨rfl, rfl⟩
theorem f32 (a : Int) (w : World) : Calls Try.prog 20 #[.int .i64 a, .int .u64 32] w fun e w' => e = .returned (.bool (inR (-2147483648) 2147483648 a)) ∧ w' = w := by
  by_cases hl : -2147483648 ≤ a
  · have H : Hid (inR (-2147483648) 2147483648 a = decide (a < 2147483648)) := Lib.hid (by unfold inR; rw [decide_eq_decide]; omega)
    have hd : decide (-2147483648 ≤ a) = true := decide_eq_true hl
    clear hl
    go_enter Try.func20, Try.ntmps20
    go_wp2
    go_ret
    exact ⟨by rw [H.out]; rfl, rfl⟩
  · have H : Hid (inR (-2147483648) 2147483648 a = false) := Lib.hid (by unfold inR; rw [decide_eq_false_iff_not]; omega)
    have hd : decide (-2147483648 ≤ a) = false := decide_eq_false hl
    clear hl
    go_enter Try.func20, Try.ntmps20
    go_wp2
    go_ret
    exact ⟨by rw [H.out]; rfl, rfl⟩
theorem c59 (a : Int) (w : World) (_ : -9223372036854775808 ≤ a) (_ : a ≤ 9223372036854775807) : Calls Try.prog 59 #[.int .i64 a] w fun e w' => e = .returned (.bool (inR (-524288) 524288 a)) ∧ w' = w := by
  by_cases hl : -524288 ≤ a
  · have H : Hid (inR (-524288) 524288 a = decide (a < 524288)) := Lib.hid (by unfold inR; rw [decide_eq_decide]; omega)
    have hd : decide (-524288 ≤ a) = true := decide_eq_true hl
    clear hl
    go_enter Try.func59, Try.ntmps59
    go_wp2
    go_ret
    exact ⟨by rw [H.out]; rfl, rfl⟩
  · have H : Hid (inR (-524288) 524288 a = false) := Lib.hid (by unfold inR; rw [decide_eq_false_iff_not]; omega)
    have hd : decide (-524288 ≤ a) = false := decide_eq_false hl
    clear hl
    go_enter Try.func59, Try.ntmps59
    go_wp2
    go_ret
    exact ⟨by rw [H.out]; rfl, rfl⟩
theorem c40 (a : Int) (w : World) (h0 : -9223372036854775808 ≤ a) (h1 : a ≤ 9223372036854775807) : Calls Try.prog 40 #[.int .i64 a] w fun e w' => e = .returned (.bool (inR (-524288) 524288 a)) ∧ w' = w := by
  have H0 := Lib.hid h0
  have H1 := Lib.hid h1
  clear h0 h1
  go_enter Try.func40, Try.ntmps40
  go_wp2_with (go_at_call 59; refine (c59 _ _ H0.out H1.out).mono ?_; rintro e w' ⟨rfl, rfl⟩)
  go_ret
  exact ⟨rfl, rfl⟩
theorem c21 (a : Int) (w : World) (h0 : -9223372036854775808 ≤ a) (h1 : a ≤ 9223372036854775807) : Calls Try.prog 21 #[.int .i64 a] w fun e w' => e = .returned (.bool (inR (-524288) 524288 a)) ∧ w' = w := by
  have H0 := Lib.hid h0
  have H1 := Lib.hid h1
  clear h0 h1
  go_enter Try.func21, Try.ntmps21
  go_wp2_with (go_at_call 40; refine (c40 _ _ H0.out H1.out).mono ?_; rintro e w' ⟨rfl, rfl⟩)
  go_ret
  exact ⟨rfl, rfl⟩
theorem f20 (a : Int) (w : World) : Calls Try.prog 20 #[.int .i64 a, .int .u64 20] w fun e w' => e = .returned (.bool (inR (-524288) 524288 a)) ∧ w' = w := by
  by_cases hl : -524288 ≤ a
  · have H : Hid (inR (-524288) 524288 a = decide (a < 524288)) := Lib.hid (by unfold inR; rw [decide_eq_decide]; omega)
    have hd : decide (-524288 ≤ a) = true := decide_eq_true hl
    clear hl
    go_enter Try.func20, Try.ntmps20
    go_wp2
    go_ret
    exact ⟨by rw [H.out]; rfl, rfl⟩
  · have H : Hid (inR (-524288) 524288 a = false) := Lib.hid (by unfold inR; rw [decide_eq_false_iff_not]; omega)
    have hd : decide (-524288 ≤ a) = false := decide_eq_false hl
    clear hl
    go_enter Try.func20, Try.ntmps20
    go_wp2
    go_ret
    exact ⟨by rw [H.out]; rfl, rfl⟩
theorem v16 (a : Int) (h0 : -9223372036854775808 ≤ a) (h1 : a ≤ 9223372036854775807) : (a == wrap64 (IntKind.i16.wrap a)) = inR (-32768) 32768 a := by
  have e : IntKind.i16.wrap a = (a + 32768) % 65536 - 32768 := by simp [IntKind.wrap, IntKind.bits, IntKind.signed]; split <;> omega
  unfold inR
  rw [e, w64 (by omega) (by omega), Bool.eq_iff_iff, beq_iff_eq, decide_eq_true_eq]
  omega
theorem c60 (a : Int) (w : World) (h0 : -9223372036854775808 ≤ a) (h1 : a ≤ 9223372036854775807) : Calls Try.prog 60 #[.int .i64 a] w fun e w' => e = .returned (.bool (inR (-32768) 32768 a)) ∧ w' = w := by
  have H := Lib.hid (v16 a h0 h1)
  clear h0 h1
  go_enter Try.func60, Try.ntmps60
  go_wp2
  go_ret
  exact ⟨by rw [← H.out]; rfl, rfl⟩
theorem c41 (a : Int) (w : World) (h0 : -9223372036854775808 ≤ a) (h1 : a ≤ 9223372036854775807) : Calls Try.prog 41 #[.int .i64 a] w fun e w' => e = .returned (.bool (inR (-32768) 32768 a)) ∧ w' = w := by
  have H0 := Lib.hid h0
  have H1 := Lib.hid h1
  clear h0 h1
  go_enter Try.func41, Try.ntmps41
  go_wp2_with (go_at_call 60; refine (c60 _ _ H0.out H1.out).mono ?_; rintro e w' ⟨rfl, rfl⟩)
  go_ret
  exact ⟨rfl, rfl⟩
theorem c22 (a : Int) (w : World) (h0 : -9223372036854775808 ≤ a) (h1 : a ≤ 9223372036854775807) : Calls Try.prog 22 #[.int .i64 a] w fun e w' => e = .returned (.bool (inR (-32768) 32768 a)) ∧ w' = w := by
  have H0 := Lib.hid h0
  have H1 := Lib.hid h1
  clear h0 h1
  go_enter Try.func22, Try.ntmps22
  go_wp2_with (go_at_call 41; refine (c41 _ _ H0.out H1.out).mono ?_; rintro e w' ⟨rfl, rfl⟩)
  go_ret
  exact ⟨rfl, rfl⟩
theorem f16 (a : Int) (w : World) : Calls Try.prog 20 #[.int .i64 a, .int .u64 16] w fun e w' => e = .returned (.bool (inR (-32768) 32768 a)) ∧ w' = w := by
  by_cases hl : -32768 ≤ a
  · have H : Hid (inR (-32768) 32768 a = decide (a < 32768)) := Lib.hid (by unfold inR; rw [decide_eq_decide]; omega)
    have hd : decide (-32768 ≤ a) = true := decide_eq_true hl
    clear hl
    go_enter Try.func20, Try.ntmps20
    go_wp2
    go_ret
    exact ⟨by rw [H.out]; rfl, rfl⟩
  · have H : Hid (inR (-32768) 32768 a = false) := Lib.hid (by unfold inR; rw [decide_eq_false_iff_not]; omega)
    have hd : decide (-32768 ≤ a) = false := decide_eq_false hl
    clear hl
    go_enter Try.func20, Try.ntmps20
    go_wp2
    go_ret
    exact ⟨by rw [H.out]; rfl, rfl⟩
theorem c61 (a : Int) (w : World) (_ : -9223372036854775808 ≤ a) (_ : a ≤ 9223372036854775807) : Calls Try.prog 61 #[.int .i64 a] w fun e w' => e = .returned (.bool (inR (-2048) 2048 a)) ∧ w' = w := by
  by_cases hl : -2048 ≤ a
  · have H : Hid (inR (-2048) 2048 a = decide (a < 2048)) := Lib.hid (by unfold inR; rw [decide_eq_decide]; omega)
    have hd : decide (-2048 ≤ a) = true := decide_eq_true hl
    clear hl
    go_enter Try.func61, Try.ntmps61
    go_wp2
    go_ret
    exact ⟨by rw [H.out]; rfl, rfl⟩
  · have H : Hid (inR (-2048) 2048 a = false) := Lib.hid (by unfold inR; rw [decide_eq_false_iff_not]; omega)
    have hd : decide (-2048 ≤ a) = false := decide_eq_false hl
    clear hl
    go_enter Try.func61, Try.ntmps61
    go_wp2
    go_ret
    exact ⟨by rw [H.out]; rfl, rfl⟩
theorem c42 (a : Int) (w : World) (h0 : -9223372036854775808 ≤ a) (h1 : a ≤ 9223372036854775807) : Calls Try.prog 42 #[.int .i64 a] w fun e w' => e = .returned (.bool (inR (-2048) 2048 a)) ∧ w' = w := by
  have H0 := Lib.hid h0
  have H1 := Lib.hid h1
  clear h0 h1
  go_enter Try.func42, Try.ntmps42
  go_wp2_with (go_at_call 61; refine (c61 _ _ H0.out H1.out).mono ?_; rintro e w' ⟨rfl, rfl⟩)
  go_ret
  exact ⟨rfl, rfl⟩
theorem c23 (a : Int) (w : World) (h0 : -9223372036854775808 ≤ a) (h1 : a ≤ 9223372036854775807) : Calls Try.prog 23 #[.int .i64 a] w fun e w' => e = .returned (.bool (inR (-2048) 2048 a)) ∧ w' = w := by
  have H0 := Lib.hid h0
  have H1 := Lib.hid h1
  clear h0 h1
  go_enter Try.func23, Try.ntmps23
  go_wp2_with (go_at_call 42; refine (c42 _ _ H0.out H1.out).mono ?_; rintro e w' ⟨rfl, rfl⟩)
  go_ret
  exact ⟨rfl, rfl⟩
theorem f12 (a : Int) (w : World) : Calls Try.prog 20 #[.int .i64 a, .int .u64 12] w fun e w' => e = .returned (.bool (inR (-2048) 2048 a)) ∧ w' = w := by
  by_cases hl : -2048 ≤ a
  · have H : Hid (inR (-2048) 2048 a = decide (a < 2048)) := Lib.hid (by unfold inR; rw [decide_eq_decide]; omega)
    have hd : decide (-2048 ≤ a) = true := decide_eq_true hl
    clear hl
    go_enter Try.func20, Try.ntmps20
    go_wp2
    go_ret
    exact ⟨by rw [H.out]; rfl, rfl⟩
  · have H : Hid (inR (-2048) 2048 a = false) := Lib.hid (by unfold inR; rw [decide_eq_false_iff_not]; omega)
    have hd : decide (-2048 ≤ a) = false := decide_eq_false hl
    clear hl
    go_enter Try.func20, Try.ntmps20
    go_wp2
    go_ret
    exact ⟨by rw [H.out]; rfl, rfl⟩
theorem v8 (a : Int) (h0 : -9223372036854775808 ≤ a) (h1 : a ≤ 9223372036854775807) : (a == wrap64 (IntKind.i8.wrap a)) = inR (-128) 128 a := by
  have e : IntKind.i8.wrap a = (a + 128) % 256 - 128 := by simp [IntKind.wrap, IntKind.bits, IntKind.signed]; split <;> omega
  unfold inR
  rw [e, w64 (by omega) (by omega), Bool.eq_iff_iff, beq_iff_eq, decide_eq_true_eq]
  omega
theorem c62 (a : Int) (w : World) (h0 : -9223372036854775808 ≤ a) (h1 : a ≤ 9223372036854775807) : Calls Try.prog 62 #[.int .i64 a] w fun e w' => e = .returned (.bool (inR (-128) 128 a)) ∧ w' = w := by
  have H := Lib.hid (v8 a h0 h1)
  clear h0 h1
  go_enter Try.func62, Try.ntmps62
  go_wp2
  go_ret
  exact ⟨by rw [← H.out]; rfl, rfl⟩
theorem c43 (a : Int) (w : World) (h0 : -9223372036854775808 ≤ a) (h1 : a ≤ 9223372036854775807) : Calls Try.prog 43 #[.int .i64 a] w fun e w' => e = .returned (.bool (inR (-128) 128 a)) ∧ w' = w := by
  have H0 := Lib.hid h0
  have H1 := Lib.hid h1
  clear h0 h1
  go_enter Try.func43, Try.ntmps43
  go_wp2_with (go_at_call 62; refine (c62 _ _ H0.out H1.out).mono ?_; rintro e w' ⟨rfl, rfl⟩)
  go_ret
  exact ⟨rfl, rfl⟩
theorem c24 (a : Int) (w : World) (h0 : -9223372036854775808 ≤ a) (h1 : a ≤ 9223372036854775807) : Calls Try.prog 24 #[.int .i64 a] w fun e w' => e = .returned (.bool (inR (-128) 128 a)) ∧ w' = w := by
  have H0 := Lib.hid h0
  have H1 := Lib.hid h1
  clear h0 h1
  go_enter Try.func24, Try.ntmps24
  go_wp2_with (go_at_call 43; refine (c43 _ _ H0.out H1.out).mono ?_; rintro e w' ⟨rfl, rfl⟩)
  go_ret
  exact ⟨rfl, rfl⟩
theorem f8 (a : Int) (w : World) : Calls Try.prog 20 #[.int .i64 a, .int .u64 8] w fun e w' => e = .returned (.bool (inR (-128) 128 a)) ∧ w' = w := by
  by_cases hl : -128 ≤ a
  · have H : Hid (inR (-128) 128 a = decide (a < 128)) := Lib.hid (by unfold inR; rw [decide_eq_decide]; omega)
    have hd : decide (-128 ≤ a) = true := decide_eq_true hl
    clear hl
    go_enter Try.func20, Try.ntmps20
    go_wp2
    go_ret
    exact ⟨by rw [H.out]; rfl, rfl⟩
  · have H : Hid (inR (-128) 128 a = false) := Lib.hid (by unfold inR; rw [decide_eq_false_iff_not]; omega)
    have hd : decide (-128 ≤ a) = false := decide_eq_false hl
    clear hl
    go_enter Try.func20, Try.ntmps20
    go_wp2
    go_ret
    exact ⟨by rw [H.out]; rfl, rfl⟩
theorem walk (a : Int) (W : World) (w0 : (Lit.int .i64 a).wf = true) : Calls Try.prog 6 #[.int .i64 a] W fun e W' => e = .returned (.bool true) ∧ Below W.heap.size W W' := by
  obtain ⟨h0, h1⟩ := wfi64 w0
  have H0 := Lib.hid h0
  have H1 := Lib.hid h1
  have h5 : inR (-128) 128 5 = true := by decide
  have H5 := Lib.hid h5
  clear h0 h1 h5
  go_enter Try.func6, Try.ntmps6
  go_wp2_with (first
    | (go_at_call_of 20 (Value.int .u64 32); refine (f32 _ _).mono ?_; rintro e w' ⟨rfl, rfl⟩)
    | (go_at_call_of 20 (Value.int .u64 20); refine (f20 _ _).mono ?_; rintro e w' ⟨rfl, rfl⟩)
    | (go_at_call_of 20 (Value.int .u64 16); refine (f16 _ _).mono ?_; rintro e w' ⟨rfl, rfl⟩)
    | (go_at_call_of 20 (Value.int .u64 12); refine (f12 _ _).mono ?_; rintro e w' ⟨rfl, rfl⟩)
    | (go_at_call_of 20 (Value.int .u64 8); refine (f8 _ _).mono ?_; rintro e w' ⟨rfl, rfl⟩)
    | (go_at_call_of 24 (Value.int .i64 5); refine (c24 _ _ (by decide) (by decide)).mono ?_; rintro e w' ⟨rfl, rfl⟩; rw [H5.out])
    | (go_at_call 19; refine (c19 _ _ H0.out H1.out).mono ?_; rintro e w' ⟨rfl, rfl⟩)
    | (go_at_call 21; refine (c21 _ _ H0.out H1.out).mono ?_; rintro e w' ⟨rfl, rfl⟩)
    | (go_at_call 22; refine (c22 _ _ H0.out H1.out).mono ?_; rintro e w' ⟨rfl, rfl⟩)
    | (go_at_call 23; refine (c23 _ _ H0.out H1.out).mono ?_; rintro e w' ⟨rfl, rfl⟩)
    | (go_at_call 24; refine (c24 _ _ H0.out H1.out).mono ?_; rintro e w' ⟨rfl, rfl⟩))
  go_ret
  exact ⟨by simp, Below.refl _ _⟩
end Go.Proofs.Ytfnhbjpflpbebaa.Sg
