/- FnTrailingOnes: the number of ones at the low end is told to be that of zeros of the complement, for every int64, over the table that the library lays; no other condition. The reference's loop, and the walk of the law. -/
import Derived.Test.YtfnhbjpflpbebaaDoorTz
import Derived.Test.YtfnhbjpflpbebaaDoorPFnTrailingOnesx1
namespace Go.Proofs.YtfnhbjpflpbebaaDoor.Ones
open Go.RowKit Go.Proofs.YtfnhbjpflpbebaaDoorW.PrintWords Go.Proofs.YtfnhbjpflpbebaaDoorW.PrintLast Go.Proofs.YtfnhbjpflpbebaaDoorW.PrintMore Go.Proofs.YtfnhbjpflpbebaaDoor.Kit Go.Proofs.YtfnhbjpflpbebaaDoor.Tz Go.Proofs.YtfnhbjpflpbebaaDoor.PFnTrailingOnes
theorem shr_nat (x i : Nat) (h : i ≤ 64) : shr .u64 (x : Int) (i : Int) = ((x / 2 ^ i : Nat) : Int) := by
  unfold shr
  rw [Int.toNat_natCast, Nat.min_eq_left (show i ≤ IntKind.u64.bits from h)]
  simp
theorem bit_any (x i : Nat) (h : i ≤ 64) : spec_bit.f (x : Int) (i : Int) = some (((x / 2 ^ i) % 2 : Nat) : Int) := by
  unfold spec_bit.f
  rw [if_pos (by omega), shr_nat x i h, tmod_nn (Int.natCast_nonneg _)]
  simp
theorem loop (x d : Nat) : ∀ (k i : Nat), i + d = 64 → d < k → spec_Trailing.l0 k (x : Int) 64 (i : Int) = some ((i + Lib.ctzFrom d (x / 2 ^ i) : Nat) : Int) := by
  induction d with
  | zero =>
    intro k i hi hk
    obtain ⟨k, rfl⟩ : ∃ m, k = m + 1 := ⟨k - 1, by omega⟩
    simp only [spec_Trailing.l0]
    rw [wu64 (by omega) (by omega), if_neg (by omega)]
    simp [Lib.ctzFrom]
  | succ d ih =>
    intro k i hi hk
    obtain ⟨k, rfl⟩ : ∃ m, k = m + 1 := ⟨k - 1, by omega⟩
    simp only [spec_Trailing.l0]
    rw [wu64 (by omega) (by omega), if_pos (by omega), bit_any x i (by omega), Option.bind_some]
    have hdiv : x / 2 ^ (i + 1) = x / 2 ^ i / 2 := by rw [Nat.pow_succ, Nat.div_div_eq_div_mul]
    unfold Lib.ctzFrom
    by_cases hb : x / 2 ^ i % 2 = 1
    · rw [if_neg (by omega), if_pos hb]; rfl
    · rw [if_pos (by omega), if_neg hb, w64 (by omega) (by omega)]
      have := ih k (i + 1) (by omega) (by omega)
      rw [show ((i : Int) + 1) = ((i + 1 : Nat) : Int) from rfl, this, hdiv]
      refine congrArg some ?_
      omega
theorem ctz_from (y : Nat) : Lib.ctz 64 y = Lib.ctzFrom 64 y := by
  unfold Lib.ctz
  by_cases h : y = 0
  · rw [if_pos h, h]; decide +kernel
  · rw [if_neg h]
theorem trailing (y : Nat) : spec_Trailing.f 65 (y : Int) 64 = some ((Lib.ctz 64 y : Nat) : Int) := by
  unfold spec_Trailing.f
  rw [show (0 : Int) = ((0 : Nat) : Int) from rfl, loop y 64 65 0 (by omega) (by omega), ctz_from]
  simp
theorem law (x : Int) (W : World) (hT : TabAt 0 Lib.deBruijn64tab W) (_ : (Lit.int .i64 x).wf = true) : Calls Tryd.prog 3 #[.int .i64 x] W fun e W' => e = .returned (.bool true) ∧ Below W.heap.size W W' := by
  have hun := unu
  have H7 : Hid (nto 7 = 3) := Lib.hid (by decide +kernel)
  obtain ⟨y, hy⟩ : ∃ y : Nat, 18446744073709551615 - x % 18446744073709551616 = (y : Int) := ⟨(18446744073709551615 - x % 18446744073709551616).toNat, by omega⟩
  have hm : IntKind.u64.wrap x % 18446744073709551616 = x % 18446744073709551616 := by rw [wu64m]; omega
  have HX : Hid (spec_Trailing.f 65 (ntu (IntKind.u64.wrap x)) 64 = some (nto x : Int)) := Lib.hid (by rw [ntu_any, hm, hy, trailing]; unfold nto; rw [hy]; simp)
  have HT := Lib.hid hT
  clear hT hy hm
  go_enter Tryd.func3, Tryd.ntmps3
  go_wp2_with (first
    | (go_at_call_of 6 (Value.int .i64 7); refine (c6 7 _ ?hT).mono ?_; (case hT => exact HT.out); rintro e w' ⟨rfl, rfl⟩; rw [H7.out])
    | (go_at_call 6; refine (c6 x _ ?hT).mono ?_; (case hT => exact HT.out); rintro e w' ⟨rfl, rfl⟩)
    | (go_at_call 7; refine (spec_Trailing.calls 65 _ _ _ _ HX.out).mono ?_; rintro e w' ⟨rfl, ⟨n1, rfl⟩⟩))
  go_ret
  exact ⟨by simp, by repeat (first | exact Below.refl _ _ | refine pw_below_drewN ?_ _)⟩
end Go.Proofs.YtfnhbjpflpbebaaDoor.Ones
