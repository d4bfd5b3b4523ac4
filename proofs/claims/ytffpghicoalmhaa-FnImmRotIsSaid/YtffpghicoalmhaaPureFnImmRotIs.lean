/- FnImmRotIs over numbers: immediates of ARM are told to be the words of 8 bits turned by an even number of places; no condition beyond the arguments being of their type. -/
import Derived.Test.YtffpghicoalmhaaPFnImmRotIsx1
import Derived.Test.YtffpghicoalmhaaKit
namespace Go.Proofs.Ytffpghicoalmhaa.Pure
open Go.RowKit Go.Proofs.Ytffpghicoalmhaa.PFnImmRotIs Go.Proofs.YtffpghicoalmhaaW.PrintWords Go.Proofs.YtffpghicoalmhaaW.PrintLast Go.Proofs.Ytffpghicoalmhaa.Kit
theorem shl_one (i : Nat) (h : i < 64) : shl .u64 1 (i : Int) = ((2 ^ i : Nat) : Int) := by
  have hp : 2 ^ i < 2 ^ 64 := Nat.pow_lt_pow_right (by decide) h
  have M : (2 : Nat) ^ 64 = 18446744073709551616 := by decide
  have hc : ((2 : Int) ^ i) = ((2 ^ i : Nat) : Int) := by simp
  unfold shl
  rw [Int.toNat_natCast, Nat.min_eq_left (show i ≤ IntKind.u64.bits from Nat.le_of_lt h), Int.one_mul, hc, wu64 (Int.natCast_nonneg _) (by omega)]
theorem shl_nat (x i : Nat) (h : i ≤ 64) : shl .u64 (x : Int) (i : Int) = ((x * 2 ^ i % 18446744073709551616 : Nat) : Int) := by
  unfold shl
  rw [Int.toNat_natCast, Nat.min_eq_left (show i ≤ IntKind.u64.bits from h), wu64m]
  simp
theorem shr_nat' (x i : Nat) (h : i ≤ 64) : shr .u64 (x : Int) (i : Int) = ((x / 2 ^ i : Nat) : Int) := by
  unfold shr
  rw [Int.toNat_natCast, Nat.min_eq_left (show i ≤ IntKind.u64.bits from h)]
  simp
theorem low_any (x b : Nat) (h : b < 64) : spec_Low.f (x : Int) (b : Int) = some ((x % 2 ^ b : Nat) : Int) := by
  have hp := Nat.two_pow_pos b
  unfold spec_Low.f
  rw [if_neg (by omega), if_pos (by omega), shl_one b h, if_neg (by omega), tmod_nn (Int.natCast_nonneg _)]
  simp
theorem low_64 (x : Int) : spec_Low.f x 64 = some x := by unfold spec_Low.f; rw [if_pos (by decide)]
theorem turn_32 (x s : Nat) (hs : s < 32) : spec_Turn.f (x : Int) 32 (s : Int) = some ((rot 32 (x % 4294967296) s : Nat) : Int) := by
  have M : (2 : Nat) ^ 32 = 4294967296 := by decide
  have l := low_any x 32 (by decide)
  rw [M] at l
  rw [show (((32 : Nat)) : Int) = 32 from rfl] at l
  unfold spec_Turn.f
  rw [if_neg (by decide), l]
  simp only [Option.bind_some]
  have hx : x % 4294967296 < 4294967296 := Nat.mod_lt _ (by decide)
  generalize x % 4294967296 = y at *
  have hp : 2 ^ s ≤ 2 ^ 31 := Nat.pow_le_pow_right (by decide) (by omega)
  have M31 : (2 : Nat) ^ 31 = 2147483648 := by decide
  have e1 : Int.tmod (s : Int) 32 = (s : Int) := by rw [tmod_nn (by omega)]; omega
  have e2 : IntKind.u64.wrap (32 - (s : Int)) = ((32 - s : Nat) : Int) := by rw [wu64 (by omega) (by omega)]; omega
  have hm : y * 2 ^ s < 18446744073709551616 := by
    have := Nat.mul_le_mul (show y ≤ 4294967295 by omega) (show 2 ^ s ≤ 2147483648 by omega)
    omega
  have hd : y / 2 ^ (32 - s) < 18446744073709551616 := Nat.lt_of_le_of_lt (Nat.div_le_self _ _) (by omega)
  rw [e1, if_pos (by omega), e2, if_pos (by omega), shl_nat y s (by omega), shr_nat' y (32 - s) (by omega), Nat.mod_eq_of_lt hm, bits_or_u64n _ _ hm hd]
  have l2 := low_any (y * 2 ^ s ||| y / 2 ^ (32 - s)) 32 (by decide)
  rw [show (((32 : Nat)) : Int) = 32 from rfl, rot_of 32 y s (by rw [M]; exact hx)] at l2
  rw [l2]; rfl
theorem turn_64 (x s : Nat) (hx : x < 18446744073709551616) (hs : s ≤ 64) : spec_Turn.f (x : Int) 64 (s : Int) = some ((rot 64 x (s % 64) : Nat) : Int) := by
  have M : (2 : Nat) ^ 64 = 18446744073709551616 := by decide
  unfold spec_Turn.f
  rw [if_neg (by decide), low_64]
  simp only [Option.bind_some]
  have e1 : Int.tmod (s : Int) 64 = ((s % 64 : Nat) : Int) := by rw [tmod_nn (by omega)]; omega
  have hs' : s % 64 < 64 := Nat.mod_lt _ (by decide)
  rw [e1]
  generalize s % 64 = t at *
  have e2 : IntKind.u64.wrap (64 - (t : Int)) = ((64 - t : Nat) : Int) := by rw [wu64 (by omega) (by omega)]; omega
  have hd : x / 2 ^ (64 - t) < 18446744073709551616 := Nat.lt_of_le_of_lt (Nat.div_le_self _ _) (by omega)
  rw [if_pos (by omega), e2, if_pos (by omega), shl_nat x t (by omega), shr_nat' x (64 - t) (by omega), bits_or_u64n _ _ (Nat.mod_lt _ (by decide)) hd, low_64]
  unfold rot
  rw [M]
  try rfl
theorem small_iff (x : Nat) (hx : x < 4294967296) : Go.bits .andNot .u32 (x : Int) 255 = 0 ↔ x < 256 := by
  have e : Go.bits .andNot .u32 (x : Int) 255 = ((x &&& 4294967040 : Nat) : Int) := by
    have h2 : ∀ b : BitVec 32, b &&& ~~~(BitVec.ofInt 32 255) = b &&& 4294967040#32 := fun b => by rfl
    rw [bits_u32]
    simp only [h2]
    rw [BitVec.ofInt_natCast, BitVec.toNat_and, BitVec.toNat_ofNat, Nat.mod_eq_of_lt (by simpa using hx)]
    rfl
  rw [e]
  have k : x &&& 4294967040 = x / 256 * 256 := by
    refine eq_of_bits 32 _ _ (Nat.lt_of_le_of_lt Nat.and_le_left (by simpa using hx)) (by omega) (fun i hi => ?_)
    rw [Nat.testBit_and, show (4294967040 : Nat) = (2 ^ 24 - 1) * 2 ^ 8 from by decide, show x / 256 * 256 = x / 2 ^ 8 * 2 ^ 8 from rfl, Nat.testBit_mul_two_pow, Nat.testBit_mul_two_pow, Nat.testBit_two_pow_sub_one, Nat.testBit_div_two_pow]
    by_cases h8 : 8 ≤ i
    · rw [show i - 8 + 8 = i from by omega]; simp [h8]; intro _; omega
    · simp [h8]
  rw [k]; omega
theorem next_any (x : Nat) (hx : x < 4294967296) : Go.bits .or .u32 (((x : Int) * 4) % 4294967296) ((x : Int) / 1073741824) = ((rot 32 x 2 : Nat) : Int) := by
  have e1 : ((x : Int) * 4) % 4294967296 = ((x * 2 ^ 2 % 2 ^ 32 : Nat) : Int) := by omega
  have e2 : (x : Int) / 1073741824 = ((x / 2 ^ (32 - 2) : Nat) : Int) := by omega
  rw [e1, e2, bits_or_u32n _ _ (by omega) (by omega)]
  rfl
theorem same_loop (x : Nat) (hx : x < 4294967296) (d : Nat) : ∀ (k m i : Nat), i + d = 16 → d < k → d < m →
    ssarewrite_isARMImmRot.l0 k ((rot 32 x (2 * i % 32) : Nat) : Int) (i : Int) = spec_IsImmediate.l0 m (x : Int) ((2 * i : Nat) : Int) := by
  have M : (2 : Nat) ^ 32 = 4294967296 := by decide
  induction d with
  | zero =>
    intro k m i hi hk hm
    obtain ⟨k, rfl⟩ : ∃ j, k = j + 1 := ⟨k - 1, by omega⟩
    obtain ⟨m, rfl⟩ : ∃ j, m = j + 1 := ⟨m - 1, by omega⟩
    simp only [ssarewrite_isARMImmRot.l0, spec_IsImmediate.l0]
    rw [if_neg (by omega), if_neg (by omega)]
  | succ d ih =>
    intro k m i hi hk hm
    obtain ⟨k, rfl⟩ : ∃ j, k = j + 1 := ⟨k - 1, by omega⟩
    obtain ⟨m, rfl⟩ : ∃ j, m = j + 1 := ⟨m - 1, by omega⟩
    have hy : rot 32 x (2 * i % 32) < 4294967296 := by rw [← M]; exact rot_lt 32 x _ (by rw [M]; exact hx)
    have hn := rot_rot 32 x (2 * i % 32) 2 (by rw [M]; exact hx) (Nat.mod_lt _ (by decide)) (by decide)
    rw [show (2 * i % 32 + 2) % 32 = 2 * (i + 1) % 32 from by omega] at hn
    have t := turn_32 x (2 * i) (by omega)
    rw [Nat.mod_eq_of_lt hx, show 2 * i = 2 * i % 32 from by omega] at t
    have ih' := ih k m (i + 1) (by omega) (by omega) (by omega)
    simp only [ssarewrite_isARMImmRot.l0, spec_IsImmediate.l0]
    rw [if_pos (show (i : Int) < 16 by omega), if_pos (show ((2 * i : Nat) : Int) < 32 by omega), next_any _ hy, hn, w64 (z := (i : Int) + 1) (by omega) (by omega), wu64 (z := ((2 * i : Nat) : Int) + 2) (by omega) (by omega), wu64 (z := (x : Int)) (by omega) (by omega)]
    rw [show ((2 * i : Nat) : Int) = ((2 * i % 32 : Nat) : Int) from by omega, t]
    simp only [Option.bind_some]
    rw [show ((2 * i % 32 : Nat) : Int) + 2 = ((2 * (i + 1) : Nat) : Int) from by omega, show (i : Int) + 1 = ((i + 1 : Nat) : Int) from by omega]
    by_cases h : rot 32 x (2 * i % 32) < 256
    · rw [if_pos ((small_iff _ hy).2 h), if_pos (by omega)]
    · rw [if_neg (fun g => h ((small_iff _ hy).1 g)), if_neg (by omega)]
      exact ih'
theorem end_any (x : Nat) (hx : x < 4294967296) (d : Nat) : ∀ (m i : Nat), i + d = 16 → d < m → ∃ b, spec_IsImmediate.l0 m (x : Int) ((2 * i : Nat) : Int) = some b := by
  induction d with
  | zero =>
    intro m i hi hm
    obtain ⟨m, rfl⟩ : ∃ j, m = j + 1 := ⟨m - 1, by omega⟩
    simp only [spec_IsImmediate.l0]
    rw [if_neg (by omega)]
    exact ⟨_, rfl⟩
  | succ d ih =>
    intro m i hi hm
    obtain ⟨m, rfl⟩ : ∃ j, m = j + 1 := ⟨m - 1, by omega⟩
    simp only [spec_IsImmediate.l0]
    rw [if_pos (by omega), wu64 (z := (x : Int)) (by omega) (by omega), turn_32 x (2 * i) (by omega), wu64 (z := ((2 * i : Nat) : Int) + 2) (by omega) (by omega)]
    simp only [Option.bind_some]
    split
    · exact ⟨_, rfl⟩
    · obtain ⟨b, hb⟩ := ih m (i + 1) (by omega) (by omega)
      exact ⟨b, by rw [← hb]; congr 1⟩
theorem five_any : impl_IsImmRot.f 20 5 = some true := by
  unfold impl_IsImmRot.f ssarewrite_ZZIsARMImmRot.f ssarewrite_isARMImmRot.f
  have e : ssarewrite_isARMImmRot.l0 20 5 0 = some true := by
    have h0 : Go.bits .andNot .u32 5 255 = 0 := (small_iff 5 (by decide)).2 (by decide)
    rw [show (20 : Nat) = 19 + 1 from rfl, ssarewrite_isARMImmRot.l0, if_pos (by decide), if_pos h0]
  rw [e]; rfl
theorem FnImmRotIs : laws_FnImmRotIs.Pure := by
  intro a ha
  obtain ⟨h0, h1⟩ := wfu32 ha
  obtain ⟨x, rfl⟩ : ∃ x : Nat, a = (x : Int) := ⟨a.toNat, by omega⟩
  have hx : x < 4294967296 := by omega
  refine ⟨20, ?_⟩
  have hs : ∀ y : Nat, y < 4294967296 → impl_IsImmRot.f 20 (y : Int) = spec_IsImmediate.f 20 (y : Int) := by
    intro y hy
    have := same_loop y hy 16 20 20 0 (by omega) (by omega) (by omega)
    rw [show 2 * 0 % 32 = 0 from rfl, rot_zero 32 y (by simpa using hy)] at this
    unfold impl_IsImmRot.f ssarewrite_ZZIsARMImmRot.f ssarewrite_isARMImmRot.f spec_IsImmediate.f
    simp only [Option.bind_fun_some]
    exact this
  have h5 := five_any
  obtain ⟨b, hb⟩ := end_any x hx 16 20 0 (by omega) (by omega)
  have hb' : spec_IsImmediate.f 20 (x : Int) = some b := hb
  unfold laws_FnImmRotIs.f
  rw [hs x hx, hb', h5]
  simp
end Go.Proofs.Ytffpghicoalmhaa.Pure
