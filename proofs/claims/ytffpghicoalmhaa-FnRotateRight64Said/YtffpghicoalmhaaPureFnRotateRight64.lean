/- FnRotateRight64 over numbers: a word is turned to the right, and back by the rest of 64 places; no condition beyond the arguments being of their type. -/
import Derived.Test.YtffpghicoalmhaaPFnRotateRight64x1
import Derived.Test.YtffpghicoalmhaaKit
namespace Go.Proofs.Ytffpghicoalmhaa.Pure
open Go.RowKit Go.Proofs.Ytffpghicoalmhaa.PFnRotateRight64 Go.Proofs.YtffpghicoalmhaaW.PrintWords Go.Proofs.YtffpghicoalmhaaW.PrintLast Go.Proofs.Ytffpghicoalmhaa.Kit
theorem shl_one (i : Nat) (h : i < 64) : shl .u64 1 (i : Int) = ((2 ^ i : Nat) : Int) := by
  have hp : 2 ^ i < 2 ^ 64 := Nat.pow_lt_pow_right (by decide) h
  have M : (2 : Nat) ^ 64 = 18446744073709551616 := by decide
  have hc : ((2 : Int) ^ i) = ((2 ^ i : Nat) : Int) := by simp
  unfold shl
  rw [Int.toNat_natCast, Nat.min_eq_left (show i ≤ IntKind.u64.bits from Nat.le_of_lt h), Int.one_mul, hc, wu64 (Int.natCast_nonneg _) (by omega)]
theorem shl_nat (x i : Nat) (h : i ≤ 64) : shl .u64 (x : Int) (i : Int) = ((x * 2 ^ i % 18446744073709551616 : Nat) : Int) := by
  unfold shl
  rw [Int.toNat_natCast, Nat.min_eq_left (show i ≤ IntKind.u64.bits from h), wu64m]
  simp
theorem shr_nat' (x i : Nat) (h : i ≤ 64) : shr .u64 (x : Int) (i : Int) = ((x / 2 ^ i : Nat) : Int) := by
  unfold shr
  rw [Int.toNat_natCast, Nat.min_eq_left (show i ≤ IntKind.u64.bits from h)]
  simp
theorem low_any (x b : Nat) (h : b < 64) : spec_Low.f (x : Int) (b : Int) = some ((x % 2 ^ b : Nat) : Int) := by
  have hp := Nat.two_pow_pos b
  unfold spec_Low.f
  rw [if_neg (by omega), if_pos (by omega), shl_one b h, if_neg (by omega), tmod_nn (Int.natCast_nonneg _)]
  simp
theorem low_64 (x : Int) : spec_Low.f x 64 = some x := by unfold spec_Low.f; rw [if_pos (by decide)]
theorem turn_32 (x s : Nat) (hs : s < 32) : spec_Turn.f (x : Int) 32 (s : Int) = some ((rot 32 (x % 4294967296) s : Nat) : Int) := by
  have M : (2 : Nat) ^ 32 = 4294967296 := by decide
  have l := low_any x 32 (by decide)
  rw [M] at l
  rw [show (((32 : Nat)) : Int) = 32 from rfl] at l
  unfold spec_Turn.f
  rw [if_neg (by decide), l]
  simp only [Option.bind_some]
  have hx : x % 4294967296 < 4294967296 := Nat.mod_lt _ (by decide)
  generalize x % 4294967296 = y at *
  have hp : 2 ^ s ≤ 2 ^ 31 := Nat.pow_le_pow_right (by decide) (by omega)
  have M31 : (2 : Nat) ^ 31 = 2147483648 := by decide
  have e1 : Int.tmod (s : Int) 32 = (s : Int) := by rw [tmod_nn (by omega)]; omega
  have e2 : IntKind.u64.wrap (32 - (s : Int)) = ((32 - s : Nat) : Int) := by rw [wu64 (by omega) (by omega)]; omega
  have hm : y * 2 ^ s < 18446744073709551616 := by
    have := Nat.mul_le_mul (show y ≤ 4294967295 by omega) (show 2 ^ s ≤ 2147483648 by omega)
    omega
  have hd : y / 2 ^ (32 - s) < 18446744073709551616 := Nat.lt_of_le_of_lt (Nat.div_le_self _ _) (by omega)
  rw [e1, if_pos (by omega), e2, if_pos (by omega), shl_nat y s (by omega), shr_nat' y (32 - s) (by omega), Nat.mod_eq_of_lt hm, bits_or_u64n _ _ hm hd]
  have l2 := low_any (y * 2 ^ s ||| y / 2 ^ (32 - s)) 32 (by decide)
  rw [show (((32 : Nat)) : Int) = 32 from rfl, rot_of 32 y s (by rw [M]; exact hx)] at l2
  rw [l2]; rfl
theorem turn_64 (x s : Nat) (hx : x < 18446744073709551616) (hs : s ≤ 64) : spec_Turn.f (x : Int) 64 (s : Int) = some ((rot 64 x (s % 64) : Nat) : Int) := by
  have M : (2 : Nat) ^ 64 = 18446744073709551616 := by decide
  unfold spec_Turn.f
  rw [if_neg (by decide), low_64]
  simp only [Option.bind_some]
  have e1 : Int.tmod (s : Int) 64 = ((s % 64 : Nat) : Int) := by rw [tmod_nn (by omega)]; omega
  have hs' : s % 64 < 64 := Nat.mod_lt _ (by decide)
  rw [e1]
  generalize s % 64 = t at *
  have e2 : IntKind.u64.wrap (64 - (t : Int)) = ((64 - t : Nat) : Int) := by rw [wu64 (by omega) (by omega)]; omega
  have hd : x / 2 ^ (64 - t) < 18446744073709551616 := Nat.lt_of_le_of_lt (Nat.div_le_self _ _) (by omega)
  rw [if_pos (by omega), e2, if_pos (by omega), shl_nat x t (by omega), shr_nat' x (64 - t) (by omega), bits_or_u64n _ _ (Nat.mod_lt _ (by decide)) hd, low_64]
  unfold rot
  rw [M]
  try rfl
theorem rot64_lt (x s : Nat) (hx : x < 18446744073709551616) : rot 64 x s < 18446744073709551616 := by
  have h := rot_lt 64 x s (by simpa using hx)
  simpa using h
theorem rot64_zero (x : Nat) (hx : x < 18446744073709551616) : rot 64 x 0 = x := rot_zero 64 x (by simpa using hx)
theorem rot64_rot (x s t : Nat) (hx : x < 18446744073709551616) (hs : s < 64) (ht : t < 64) : rot 64 (rot 64 x s) t = rot 64 x ((s + t) % 64) := rot_rot 64 x s t (by simpa using hx) hs ht
theorem rl_any (x : Nat) (k : Int) (s : Nat) (hx : x < 18446744073709551616) (hs : s < 64) (hk : k % 18446744073709551616 % 64 = (s : Int)) :
    bits_RotateLeft64.f (x : Int) k = some ((rot 64 x s : Nat) : Int) := by
  have M : (2 : Nat) ^ 64 = 18446744073709551616 := by decide
  have e0 : Go.bits .and .u64 (IntKind.u64.wrap k) 63 = (s : Int) := by
    rw [wu64m]
    have := bits_mask .u64 64 (by decide) (fun n h0 h1 => wu64 h0 (by simp at h1; omega)) 6 (by decide) (k % 18446744073709551616) (by omega) (by simp; omega)
    rw [← hk]
    simpa using this
  unfold bits_RotateLeft64.f
  have e2 : IntKind.u64.wrap (64 - (s : Int)) = ((64 - s : Nat) : Int) := by rw [wu64 (by omega) (by omega)]; omega
  have hd : x / 2 ^ (64 - s) < 18446744073709551616 := Nat.lt_of_le_of_lt (Nat.div_le_self _ _) (by omega)
  rw [e0, if_pos (by omega), e2, if_pos (by omega), shl_nat x s (by omega), shr_nat' x (64 - s) (by omega), bits_or_u64n _ _ (Nat.mod_lt _ (by decide)) hd]
  unfold rot
  rw [M]
theorem rr_any (v r : Int) (x s : Nat) (hv : IntKind.u64.wrap v = (x : Int)) (hx : x < 18446744073709551616) (hr : 0 ≤ r ∧ r < 64) (hs : s < 64) (hk : (-r) % 18446744073709551616 % 64 = (s : Int)) :
    impl_RotateRight64.f v r = some (wrap64 ((rot 64 x s : Nat) : Int)) := by
  unfold impl_RotateRight64.f ssarewrite_ZZRotateRight64.f ssarewrite_rotateRight64.f
  rw [hv, w64 (z := -r) (by omega) (by omega), rl_any x (-r) s hx hs hk]
  rfl
theorem uw (y : Nat) (h : y < 18446744073709551616) : IntKind.u64.wrap (wrap64 (y : Int)) = (y : Int) := by
  rw [wu64_wrap64, wu64 (by omega) (by omega)]
theorem FnRotateRight64 : laws_FnRotateRight64.Pure := by
  intro v b hv _
  obtain ⟨h0, h1⟩ := wfi64 hv
  have h2 : impl_RotateRight64.f 2 1 = some 1 := by
    rw [rr_any 2 1 2 63 (by decide) (by decide) (by decide) (by decide) (by decide)]; decide +kernel
  have r : laws_rwAt.f b 64 = some (b % 64) := by unfold laws_rwAt.f; rw [if_neg (by decide), rw_at b _ (by decide) (by decide)]
  obtain ⟨x, hx⟩ : ∃ x : Nat, IntKind.u64.wrap v = (x : Int) := ⟨(v % 18446744073709551616).toNat, by rw [wu64m]; omega⟩
  have hxl : x < 18446744073709551616 := by rw [wu64m] at hx; omega
  have hxw : wrap64 (x : Int) = v := by rw [← hx, wrap64_wu64, w64 h0 h1]
  obtain ⟨n, hn⟩ : ∃ n : Nat, b % 64 = (n : Int) := ⟨(b % 64).toNat, by omega⟩
  have hnl : n < 64 := by omega
  unfold laws_FnRotateRight64.f
  rw [h2, r, hn]
  simp only [Option.bind_some]
  have e1 : IntKind.u64.wrap (wrap64 (64 - (n : Int))) = ((64 - n : Nat) : Int) := by rw [w64 (by omega) (by omega), wu64 (by omega) (by omega)]; omega
  have e2 : Int.tmod (wrap64 (64 - (n : Int))) 64 = (((64 - n) % 64 : Nat) : Int) := by rw [w64 (by omega) (by omega), tmod_nn (by omega)]; omega
  have hm : (64 - n) % 64 < 64 := Nat.mod_lt _ (by decide)
  have r1 := rr_any v n x ((64 - n) % 64) hx hxl (by omega) hm (by rw [mod64]; omega)
  have t1 := turn_64 x (64 - n) hxl (by omega)
  have hy : rot 64 x ((64 - n) % 64) < 18446744073709551616 := rot64_lt x _ hxl
  have back := rot64_rot x ((64 - n) % 64) n hxl hm hnl
  rw [show ((64 - n) % 64 + n) % 64 = 0 from by omega, rot64_zero x hxl] at back
  generalize rot 64 x ((64 - n) % 64) = y at r1 t1 hy back
  rw [r1, hx, e1, t1, e2, Option.bind_some, Option.bind_some]
  have e3 := uw y hy
  have r2 := rr_any (wrap64 (y : Int)) (((64 - n) % 64 : Nat) : Int) y n e3 hy (by omega) hnl (by rw [mod64]; omega)
  rw [back] at r2
  rw [if_pos e3, r2, Option.bind_some, if_pos hxw]
  rfl
end Go.Proofs.Ytffpghicoalmhaa.Pure
