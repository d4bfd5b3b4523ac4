/- FnPowers64: for every int64 the tests for a power of 2 (signed and unsigned) agree with the reference; no condition. The walks, over the printed reference and the plain law. -/
import Derived.Test.YtffpghicoalmhaaPureFnPowers16
import Derived.Lib.Hide
namespace Go.Proofs.Ytffpghicoalmhaa.Pow64
open Go.RowKit Go.Proofs.YtffpghicoalmhaaW.PrintWords Go.Proofs.YtffpghicoalmhaaW.PrintLast Go.Proofs.Ytffpghicoalmhaa.Kit Go.Proofs.Ytffpghicoalmhaa.PFnPowers16 Go.Proofs.Ytffpghicoalmhaa.Pure

def ps (a : Int) : Bool := decide (0 < a) && (Go.bits .and .i64 a (wrap64 (a - 1)) == 0)
def pu (a : Int) : Bool := decide (0 < a) && (Go.bits .and .u64 a (IntKind.u64.wrap (a - 1)) == 0)
theorem c62 (a : Int) (w : World) : Calls Try.prog 62 #[.int .i64 a] w fun e w' => e = .returned (.bool (ps a)) ∧ w' = w := by
  by_cases h : 0 < a
  · have hp : ps a = (Go.bits .and .i64 a (wrap64 (a - 1)) == 0) := by simp [ps, h]
    have H := Lib.hid hp
    have hd : decide (0 < a) = true := decide_eq_true h
    clear hp h
    go_enter Try.func62, Try.ntmps62
    go_wp2
    go_ret
    exact ⟨by rw [H.out]; rfl, rfl⟩
  · have hp : ps a = false := by simp [ps, h]
    have H := Lib.hid hp
    have hd : decide (0 < a) = false := decide_eq_false h
    clear hp h
    go_enter Try.func62, Try.ntmps62
    go_wp2
    go_ret
    exact ⟨by rw [H.out]; rfl, rfl⟩
theorem c45 (a : Int) (w : World) : Calls Try.prog 45 #[.int .i64 a] w fun e w' => e = .returned (.bool (ps a)) ∧ w' = w := by
  go_enter Try.func45, Try.ntmps45
  go_wp2_with (go_at_call 62; refine (c62 _ _).mono ?_; rintro e w' ⟨rfl, rfl⟩)
  go_ret
  exact ⟨rfl, rfl⟩
theorem c21 (a : Int) (w : World) : Calls Try.prog 21 #[.int .i64 a] w fun e w' => e = .returned (.bool (ps a)) ∧ w' = w := by
  go_enter Try.func21, Try.ntmps21
  go_wp2_with (go_at_call 45; refine (c45 _ _).mono ?_; rintro e w' ⟨rfl, rfl⟩)
  go_ret
  exact ⟨rfl, rfl⟩
theorem c63 (a : Int) (w : World) : Calls Try.prog 63 #[.int .u64 a] w fun e w' => e = .returned (.bool (pu a)) ∧ w' = w := by
  by_cases h : 0 < a
  · have hp : pu a = (Go.bits .and .u64 a (IntKind.u64.wrap (a - 1)) == 0) := by simp [pu, h]
    have H := Lib.hid hp
    have hd : decide (0 < a) = true := decide_eq_true h
    clear hp h
    go_enter Try.func63, Try.ntmps63
    go_wp2
    go_ret
    exact ⟨by rw [H.out]; rfl, rfl⟩
  · have hp : pu a = false := by simp [pu, h]
    have H := Lib.hid hp
    have hd : decide (0 < a) = false := decide_eq_false h
    clear hp h
    go_enter Try.func63, Try.ntmps63
    go_wp2
    go_ret
    exact ⟨by rw [H.out]; rfl, rfl⟩
theorem c46 (a : Int) (w : World) : Calls Try.prog 46 #[.int .u64 a] w fun e w' => e = .returned (.bool (pu a)) ∧ w' = w := by
  go_enter Try.func46, Try.ntmps46
  go_wp2_with (go_at_call 63; refine (c63 _ _).mono ?_; rintro e w' ⟨rfl, rfl⟩)
  go_ret
  exact ⟨rfl, rfl⟩
theorem c22 (a : Int) (w : World) : Calls Try.prog 22 #[.int .u64 a] w fun e w' => e = .returned (.bool (pu a)) ∧ w' = w := by
  go_enter Try.func22, Try.ntmps22
  go_wp2_with (go_at_call 46; refine (c46 _ _).mono ?_; rintro e w' ⟨rfl, rfl⟩)
  go_ret
  exact ⟨rfl, rfl⟩

theorem ps_yes (x : Nat) (h : 0 < x) (h1 : x < 9223372036854775808) : ps (x : Int) = isP 0 x := by
  have e : wrap64 ((x : Int) - 1) = ((x - 1 : Nat) : Int) := by rw [w64 (by omega) (by omega)]; omega
  have b : Go.bits .and .i64 (x : Int) ((x - 1 : Nat) : Int) = ((x &&& (x - 1) : Nat) : Int) :=
    (bits_nat .i64 63 (by decide) (fun n h0 h1 => by rw [wi64m, w64 (by omega) (by simp at h1; omega)]) x (x - 1) (by simpa using h1) (by simp; omega)).1
  unfold ps
  rw [e, b, Bool.eq_iff_iff, ← pow_iff 63 x (by decide) (by simpa using h1) (by omega)]
  simp
  omega
theorem pu_any (x : Nat) (h1 : x < 18446744073709551616) : pu (x : Int) = isP 0 x := by
  unfold pu
  by_cases h : x = 0
  · subst h
    have := isP_no (i := 0) (x := 0) (fun ⟨j, _, _, e⟩ => by have := Nat.two_pow_pos j; omega)
    rw [← Option.some.inj this]; rfl
  · have e : IntKind.u64.wrap ((x : Int) - 1) = ((x - 1 : Nat) : Int) := by rw [wu64 (by omega) (by omega)]; omega
    rw [e, bits_and_u64n x (x - 1) h1 (by omega), Bool.eq_iff_iff, ← pow_iff 64 x (by decide) (by simpa using h1) h]
    simp
    omega
theorem ps_8 : ps 8 = true := by
  have := ps_yes 8 (by decide) (by decide)
  rw [show (8 : Int) = ((8 : Nat) : Int) from rfl, this]; exact (isP_iff 0 8).2 ⟨3, by decide, by decide, by decide⟩

theorem walk (a : Int) (W : World) (w0 : (Lit.int .i64 a).wf = true) : Calls Try.prog 6 #[.int .i64 a] W fun e W' => e = .returned (.bool true) ∧ Below W.heap.size W W' := by
  obtain ⟨h0, h1⟩ := wfi64 w0
  obtain ⟨u, hu⟩ : ∃ u : Nat, IntKind.u64.wrap a = (u : Int) := ⟨(IntKind.u64.wrap a).toNat, by rw [wu64m]; omega⟩
  have hul : u < 18446744073709551616 := by rw [wu64m] at hu; omega
  have hpu : pu (IntKind.u64.wrap a) = isP 0 u := by rw [hu]; exact pu_any u hul
  have hf : spec_IsPower.f 70 (IntKind.u64.wrap a) = some (isP 0 u) := by rw [hu]; exact is_any u
  have h8 := Lib.hid ps_8
  have HF := Lib.hid hf
  have HU := Lib.hid hpu
  by_cases hp : 0 < a
  · have hps : ps a = isP 0 u := by
      have : a = (u : Int) := by rw [← hu, wu64 (by omega) (by omega)]
      rw [this]; exact ps_yes u (by omega) (by omega)
    have HS := Lib.hid hps
    have hd : decide (0 < a) = true := decide_eq_true hp
    clear hps hp hf hpu hu
    generalize isP 0 u = b at *
    go_enter Try.func6, Try.ntmps6
    go_wp2_with (first
      | (go_at_call_of 21 (Value.int .i64 8); refine (c21 _ _).mono ?_; rintro e w' ⟨rfl, rfl⟩; rw [h8.out])
      | (go_at_call 21; refine (c21 _ _).mono ?_; rintro e w' ⟨rfl, rfl⟩; rw [HS.out])
      | (go_at_call 22; refine (c22 _ _).mono ?_; rintro e w' ⟨rfl, rfl⟩; rw [HU.out])
      | (go_at_call 19; refine (spec_IsPower.calls 70 _ _ _ HF.out).mono ?_; rintro e w' ⟨rfl, ⟨nd, rfl⟩⟩))
    go_ret
    exact ⟨by simp, by repeat (first | exact Below.refl _ _ | exact pw_below_drewN (Below.refl _ _) _)⟩
  · have hps : ps a = false := by simp [ps, hp]
    have HS := Lib.hid hps
    have hd : decide (0 < a) = false := decide_eq_false hp
    clear hps hp hf hpu hu
    generalize isP 0 u = b at *
    go_enter Try.func6, Try.ntmps6
    go_wp2_with (first
      | (go_at_call_of 21 (Value.int .i64 8); refine (c21 _ _).mono ?_; rintro e w' ⟨rfl, rfl⟩; rw [h8.out])
      | (go_at_call 21; refine (c21 _ _).mono ?_; rintro e w' ⟨rfl, rfl⟩; rw [HS.out])
      | (go_at_call 22; refine (c22 _ _).mono ?_; rintro e w' ⟨rfl, rfl⟩; rw [HU.out])
      | (go_at_call 19; refine (spec_IsPower.calls 70 _ _ _ HF.out).mono ?_; rintro e w' ⟨rfl, ⟨nd, rfl⟩⟩))
    go_ret
    exact ⟨by simp, by repeat (first | exact Below.refl _ _ | exact pw_below_drewN (Below.refl _ _) _)⟩
end Go.Proofs.Ytffpghicoalmhaa.Pow64
