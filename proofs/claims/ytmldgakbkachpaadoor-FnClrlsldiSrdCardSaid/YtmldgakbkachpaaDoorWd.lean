/- What this seat's laws rest on: the tests of masks (isPPC64WordRotateMask, ..NonWrapping, the reference's IsRun) for every word; runs of ones, their ends and back, by the kernel over all of them; words turned and shifted. No condition. -/
import Derived.Test.YtmldgakbkachpaaDoorSp
import Derived.Test.YtmldgakbkachpaaDoorKit
import Derived.Lib.BitFns
import Derived.Lib.TrailingZeros
import Derived.Lib.Hide
namespace Go.Proofs.YtmldgakbkachpaaDoor.Wd
open Go.RowKit Go.Proofs.YtmldgakbkachpaaDoorW.PrintWords Go.Proofs.YtmldgakbkachpaaDoorW.PrintLast Go.Proofs.YtmldgakbkachpaaDoorW.PrintMore Go.Proofs.YtmldgakbkachpaaDoor.Kit Go.Proofs.YtmldgakbkachpaaDoor.Sp
def nt32 (n : Int) : Int := Go.bits .xor .u32 4294967295 n
theorem un32 (n : Int) : Op.unary .xor (.int .u32 n) = pure (.int .u32 (nt32 n)) := by
  show Op.intBits .xor .u32 (if IntKind.u32.signed then -1 else IntKind.u32.max) n = _
  rw [show (if IntKind.u32.signed then -1 else IntKind.u32.max) = (4294967295 : Int) from by decide +kernel]
  rfl
/-- what the code reckons, as the walk spells it. -/
def wr (a : Int) : Bool := ((Go.bits .and .u32 (a % 4294967296) ((Go.bits .and .u32 (a % 4294967296) (-(a % 4294967296) % 4294967296) + a) % 4294967296) == 0) ||
  (Go.bits .and .u32 (nt32 (a % 4294967296)) ((Go.bits .and .u32 (nt32 (a % 4294967296)) (-nt32 (a % 4294967296) % 4294967296) + nt32 (a % 4294967296)) % 4294967296) == 0)) && (a % 4294967296 != 0)
set_option maxRecDepth 100000 in
theorem word_calls (a : Int) (w : World) : Calls Tryd.prog 56 #[.int .i64 a] w fun e w' => e = .returned (.bool (wr a)) ∧ w' = w := by
  have hun := un32
  go_enter Tryd.func56, Tryd.ntmps56
  go_wp2
  all_goals (go_ret; exact ⟨by simp_all [wr], rfl⟩)
theorem c43 (a : Int) (w : World) : Calls Tryd.prog 43 #[.int .i64 a] w fun e w' => e = .returned (.bool (wr a)) ∧ w' = w := by
  go_enter Tryd.func43, Tryd.ntmps43
  go_wp2_with (go_at_call 56; refine (word_calls _ _).mono ?_; rintro e w' ⟨rfl, rfl⟩)
  go_ret
  exact ⟨rfl, rfl⟩
theorem c30 (a : Int) (w : World) : Calls Tryd.prog 30 #[.int .i64 a] w fun e w' => e = .returned (.bool (wr a)) ∧ w' = w := by
  go_enter Tryd.func30, Tryd.ntmps30
  go_wp2_with (go_at_call 43; refine (c43 _ _).mono ?_; rintro e w' ⟨rfl, rfl⟩)
  go_ret
  exact ⟨rfl, rfl⟩
theorem nt32_nat (x : Nat) (hx : x < 4294967296) : nt32 (x : Int) = ((4294967295 - x : Nat) : Int) := by
  unfold nt32
  rw [bits_u32]
  simp only []
  have e : (BitVec.ofInt 32 4294967295 ^^^ BitVec.ofInt 32 (x : Int)) = ~~~ (BitVec.ofInt 32 (x : Int)) := by
    rw [show BitVec.ofInt 32 4294967295 = BitVec.allOnes 32 from by decide, BitVec.allOnes_xor]
  rw [e, BitVec.toNat_not, BitVec.ofInt_natCast, BitVec.toNat_ofNat]
  omega
theorem half (x : Nat) (a : Int) (hx : x < 4294967296) (ha : (a - x) % 4294967296 = 0) :
    (Go.bits .and .u32 (x : Int) ((Go.bits .and .u32 (x : Int) (-(x : Int) % 4294967296) + a) % 4294967296) == 0) = decide (st false 32 x ≤ 1) := by
  have M : (2 : Nat) ^ 32 = 4294967296 := by decide
  have e1 : (-(x : Int)) % 4294967296 = (((4294967296 - x) % 4294967296 : Nat) : Int) := by omega
  have hl : low 32 x = x &&& ((4294967296 - x) % 4294967296) := by unfold low; rw [M]
  rw [e1, bits_and_u32n x _ hx (Nat.mod_lt _ (by decide)), ← hl]
  have t := run_test 32 x (by rw [M]; exact hx)
  rw [M] at t
  generalize low 32 x = l at *
  have e3 : ((l : Int) + a) % 4294967296 = (((l + x) % 4294967296 : Nat) : Int) := by omega
  rw [e3, bits_and_u32n x _ hx (Nat.mod_lt _ (by decide)), Bool.eq_iff_iff, decide_eq_true_eq, ← t, beq_iff_eq]
  omega
/-- the test, of the low 32 bits. -/
theorem wr_any (a : Int) (x : Nat) (hx : a % 4294967296 = (x : Int)) : wr a = decide (st (x.testBit 31) 32 x = 1 ∨ x = 4294967295) := by
  have M : (2 : Nat) ^ 32 = 4294967296 := by decide
  have hxl : x < 4294967296 := by omega
  unfold wr
  rw [hx, nt32_nat x hxl, half x a hxl (by omega), half (4294967295 - x) _ (by omega) (by simp)]
  have t := turned_test 31 x (by rw [M]; exact hxl)
  rw [show 31 + 1 = 32 from rfl, run_test 32 x (by rw [M]; exact hxl), M, show 4294967296 - 1 - x = 4294967295 - x from by omega, ← M, run_test 32 (4294967295 - x) (by rw [M]; omega), M, show 4294967296 - 1 = 4294967295 from rfl] at t
  rw [Bool.eq_iff_iff, decide_eq_true_eq, ← t]
  simp only [Bool.and_eq_true, Bool.or_eq_true, decide_eq_true_eq, bne_iff_ne, ne_eq]
  omega
def wh (a : Int) : Bool := (Go.bits .and .u32 (a % 4294967296) ((Go.bits .and .u32 (a % 4294967296) (-(a % 4294967296) % 4294967296) + a) % 4294967296) == 0) && (a % 4294967296 != 0) && (a % 4294967296 == IntKind.u64.wrap a)
theorem c63 (a : Int) (w : World) : Calls Tryd.prog 63 #[.int .i64 a] w fun e w' => e = .returned (.bool (wh a)) ∧ w' = w := by
  go_enter Tryd.func63, Tryd.ntmps63
  go_wp2
  all_goals (go_ret; exact ⟨by simp_all [wh], rfl⟩)
theorem pow64 {i : Nat} (h : i < 64) : 2 ^ i < 18446744073709551616 := by
  have : 2 ^ i < 2 ^ 64 := Nat.pow_lt_pow_right (by decide) h
  simpa using this
theorem shr_nat (x i : Nat) (h : i ≤ 64) : shr .u64 (x : Int) (i : Int) = ((x / 2 ^ i : Nat) : Int) := by
  unfold shr
  rw [Int.toNat_natCast, Nat.min_eq_left (show i ≤ IntKind.u64.bits from h)]
  simp
theorem bit_any (x i : Nat) (h : i ≤ 64) : spec_bit.f (x : Int) (i : Int) = some (((x / 2 ^ i) % 2 : Nat) : Int) := by
  unfold spec_bit.f
  rw [if_pos (by omega), shr_nat x i h, tmod_nn (Int.natCast_nonneg _)]
  simp
/-- the loop of IsRun from place i on, the bit below it being p. -/
theorem run_loop (x d : Nat) : ∀ (k i s : Nat) (p : Bool), i + d = 64 → d < k → s ≤ i → (p = if i = 0 then false else decide ((x / 2 ^ (i - 1)) % 2 = 1)) →
    spec_IsRun.l0 k (x : Int) (s : Int) (i : Int) = some (decide (s + st p d (x / 2 ^ i) = 1)) := by
  induction d with
  | zero =>
    intro k i s p hi hk hs hp
    obtain ⟨k, rfl⟩ : ∃ m, k = m + 1 := ⟨k - 1, by omega⟩
    simp only [spec_IsRun.l0]
    rw [if_neg (by omega)]
    refine congrArg some ?_
    have e : s + st p 0 (x / 2 ^ i) = s := rfl
    rw [Bool.eq_iff_iff, beq_iff_eq, decide_eq_true_eq, e]
    omega
  | succ d ih =>
    intro k i s p hi hk hs hp
    obtain ⟨k, rfl⟩ : ∃ m, k = m + 1 := ⟨k - 1, by omega⟩
    have hdiv : x / 2 ^ (i + 1) = x / 2 ^ i / 2 := by rw [Nat.pow_succ, Nat.div_div_eq_div_mul]
    have next : ∀ t, t ≤ i + 1 → spec_IsRun.l0 k (x : Int) (t : Int) ((i : Int) + 1) = some (decide (t + st (decide ((x / 2 ^ i) % 2 = 1)) d (x / 2 ^ i / 2) = 1)) := by
      intro t ht
      have := ih k (i + 1) t (decide ((x / 2 ^ i) % 2 = 1)) (by omega) (by omega) ht (by rw [if_neg (by omega)]; rfl)
      rw [hdiv] at this
      rw [← this]; rfl
    simp only [spec_IsRun.l0]
    rw [if_pos (by omega), bit_any x i (by omega), wu64 (z := (i : Int) + 1) (by omega) (by omega), w64 (z := (s : Int) + 1) (by omega) (by omega)]
    simp only [Option.bind_some]
    have n1 := next (s + 1) (by omega)
    have n0 := next s (by omega)
    rw [show (((s + 1 : Nat)) : Int) = (s : Int) + 1 from rfl] at n1
    by_cases hb : (x / 2 ^ i) % 2 = 1
    · rw [if_pos (by omega)]
      by_cases h0 : i = 0
      · rw [if_pos (by omega), n1, hp, if_pos h0]
        simp only [st, hb]
        refine congrArg some ?_
        rw [decide_eq_decide]
        simp
        omega
      · rw [if_neg (by omega)]
        have e1 : IntKind.u64.wrap ((i : Int) - 1) = ((i - 1 : Nat) : Int) := by rw [wu64 (by omega) (by omega)]; omega
        rw [e1, bit_any x (i - 1) (by omega)]
        simp only [Option.bind_some]
        rw [hp, if_neg h0]
        by_cases hc : (x / 2 ^ (i - 1)) % 2 = 1
        · rw [if_neg (by omega), n0]
          simp only [st, hb, hc]
          simp
        · rw [if_pos (by omega), n1]
          simp only [st, hb, hc]
          refine congrArg some ?_
          rw [decide_eq_decide]
          simp
          omega
    · rw [if_neg (by omega), n0]
      simp only [st, hb]
      simp
theorem isRun_any (x : Nat) : spec_IsRun.f 70 (x : Int) = some (decide (st false 64 x = 1)) := by
  unfold spec_IsRun.f
  have := run_loop x 64 70 0 0 false (by omega) (by omega) (by omega) rfl
  rw [show ((0 : Nat) : Int) = 0 from rfl] at this
  rw [this]
  simp
theorem st_wide (d w : Nat) : ∀ p x, x < 2 ^ w → st p (w + d) x = st p w x := by
  induction w with
  | zero =>
    intro p x hx
    have : x = 0 := by simpa using hx
    subst this
    have : ∀ d p, st p d 0 = 0 := by
      intro d
      induction d with
      | zero => intro p; rfl
      | succ d ih => intro p; simp [st, ih]
    rw [this, this]
  | succ w ih =>
    intro p x hx
    have hp : 2 ^ (w + 1) = 2 * 2 ^ w := by rw [Nat.pow_succ]; omega
    rw [show w + 1 + d = w + d + 1 from by omega]
    simp only [st]
    rw [ih _ (x / 2) (by omega)]
theorem wh_any (a : Int) (x u : Nat) (hx : a % 4294967296 = (x : Int)) (hu : IntKind.u64.wrap a = (u : Int)) : wh a = decide (st false 32 x = 1 ∧ x = u) := by
  have hxl : x < 4294967296 := by omega
  have z := st_nonzero 32 x (by simpa using hxl)
  unfold wh
  rw [hx, hu, half x a hxl (by omega), Bool.eq_iff_iff]
  generalize st false 32 x = n at *
  simp only [Bool.and_eq_true, decide_eq_true_eq, bne_iff_ne, ne_eq, beq_iff_eq]
  omega
/-- what the law compares. -/
theorem wh_run (a : Int) (u : Nat) (hu : IntKind.u64.wrap a = (u : Int)) : wh a = (decide (u < 4294967296) && decide (st false 64 u = 1)) := by
  obtain ⟨x, hx⟩ : ∃ x : Nat, a % 4294967296 = (x : Int) := ⟨(a % 4294967296).toNat, by omega⟩
  have hxu : x = u % 4294967296 := by rw [wu64m] at hu; omega
  rw [wh_any a x u hx hu, Bool.eq_iff_iff]
  simp only [Bool.and_eq_true, decide_eq_true_eq]
  by_cases h : u < 4294967296
  · have w := st_wide 32 32 false u (by simpa using h)
    have hxu' : x = u := by omega
    subst hxu'
    rw [show 32 + 32 = 64 from rfl] at w
    rw [w]
    omega
  · omega
set_option maxRecDepth 100000 in

def rn (i n : Nat) : Nat := 2 ^ i * (2 ^ n - 1)
theorem rn_bit (i n j : Nat) : (rn i n).testBit j = (decide (i ≤ j) && decide (j < i + n)) := by
  unfold rn
  rw [Nat.testBit_two_pow_mul, Nat.testBit_two_pow_sub_one]
  by_cases h : i ≤ j
  · simp [h]; omega
  · simp [h]
theorem rn_lt (i n w : Nat) (h : i + n ≤ w) : rn i n < 2 ^ w := by
  apply Nat.lt_pow_two_of_testBit
  intro j hj
  rw [rn_bit]
  simp; omega
theorem lt_of_bit {x w : Nat} (hx : x < 2 ^ w) {j : Nat} (h : x.testBit j = true) : j < w := by
  rcases Nat.lt_or_ge j w with h1 | h1
  · exact h1
  · rw [Nat.testBit_lt_two_pow (Nat.lt_of_lt_of_le hx (Nat.pow_le_pow_right (by omega) h1))] at h; cases h
theorem bit_mod (w x j : Nat) : (x % 2 ^ w).testBit j = (decide (j < w) && x.testBit j) := Nat.testBit_mod_two_pow ..

/-- SldiSrw. -/
theorem sldi_srw (x i k : Nat) (hi : i ≤ k) (hk : k < 32) : rot 32 (x % 2 ^ 32) ((32 - k + i) % 32) &&& rn i (32 - k) = (x % 2 ^ 32) / 2 ^ k * 2 ^ i := by
  have hx : x % 2 ^ 32 < 2 ^ 32 := Nat.mod_lt _ (by decide)
  generalize x % 2 ^ 32 = y at *
  apply Nat.eq_of_testBit_eq
  intro j
  rw [Nat.testBit_and, rn_bit, Nat.mul_comm, Nat.testBit_two_pow_mul, Nat.testBit_div_two_pow]
  by_cases h1 : i ≤ j
  · by_cases h2 : j < i + (32 - k)
    · rw [rot_bit 32 y _ j hx (by omega) (by omega)]
      simp only [h1, h2, decide_true, Bool.and_true, Bool.true_and]
      congr 1
      split <;> omega
    · simp only [h1, h2, decide_false, Bool.and_false, decide_true, Bool.true_and]
      rw [Nat.testBit_lt_two_pow (Nat.lt_of_lt_of_le hx (Nat.pow_le_pow_right (by omega) (by omega)))]
  · simp [h1]

/-- AndSrdi: m the mask, k the shift; the three tests of the code. -/
theorem and_srdi (m x k : Nat) (hk : k < 64) (hx : x < 2 ^ 64) (h1 : m &&& (2 ^ (64 - k) - 1) < 2 ^ 32)
    (h2 : rot 64 (rn 32 32) ((64 - k) % 64) &&& (m &&& (2 ^ (64 - k) - 1)) = 0) :
    rot 32 (x % 2 ^ 32) ((64 - k) % 32) &&& (m &&& (2 ^ (64 - k) - 1)) = m &&& (x / 2 ^ k) := by
  have hy : x % 2 ^ 32 < 2 ^ 32 := Nat.mod_lt _ (by decide)
  apply Nat.eq_of_testBit_eq
  intro j
  have h1' := @lt_of_bit _ 32 h1 j
  have h2' : ((rot 64 (rn 32 32) ((64 - k) % 64)) &&& (m &&& (2 ^ (64 - k) - 1))).testBit j = false := by rw [h2]; simp
  rw [Nat.testBit_and] at h2'
  have hb : (m &&& (2 ^ (64 - k) - 1)).testBit j = (m.testBit j && decide (j < 64 - k)) := by rw [Nat.testBit_and, Nat.testBit_two_pow_sub_one]
  rw [Nat.testBit_and, hb, Nat.testBit_and, Nat.testBit_div_two_pow]
  rw [hb] at h1' h2'
  cases hm : m.testBit j
  · simp
  · by_cases hj : j < 64 - k
    · simp only [hm, hj, decide_true, Bool.and_true, Bool.true_and] at h1' h2' ⊢
      have hj32 := h1' trivial
      rw [rot_bit 64 _ _ j (rn_lt 32 32 64 (by omega)) (by omega) (by omega), rn_bit] at h2'
      simp only [Bool.and_eq_false_iff, decide_eq_false_iff_not] at h2'
      rw [rot_bit 32 _ _ j hy (by omega) hj32, bit_mod]
      have hjk : j + k < 32 := by
        split at h2' <;> omega
      have e : (if (64 - k) % 32 ≤ j then j - (64 - k) % 32 else j + 32 - (64 - k) % 32) = j + k := by split <;> omega
      rw [e]
      simp [hjk]
    · simp only [hj, decide_false, Bool.and_false, Bool.true_and]
      rw [Nat.testBit_lt_two_pow (Nat.lt_of_lt_of_le hx (Nat.pow_le_pow_right (by omega) (by omega)))]

/-- RlwinmAnd. -/
theorem rlwinm_and (x m q r : Nat) (hm : m < 2 ^ 32) (hr : r < 32) (hq : q < 2 ^ 32) : rot 32 (x % 2 ^ 32) r &&& (q &&& rot 32 m r) = rot 32 ((x &&& m) % 2 ^ 32) r &&& q := by
  have hy : x % 2 ^ 32 < 2 ^ 32 := Nat.mod_lt _ (by decide)
  have hz : (x &&& m) % 2 ^ 32 < 2 ^ 32 := Nat.mod_lt _ (by decide)
  apply Nat.eq_of_testBit_eq
  intro j
  simp only [Nat.testBit_and]
  by_cases hj : j < 32
  · rw [rot_bit 32 _ _ j hy hr hj, rot_bit 32 _ _ j hm hr hj, rot_bit 32 _ _ j hz hr hj]
    simp only [bit_mod, Nat.testBit_and]
    cases q.testBit j <;> simp
    rw [Bool.and_assoc]
  · have : q.testBit j = false := Nat.testBit_lt_two_pow (Nat.lt_of_lt_of_le hq (Nat.pow_le_pow_right (by omega) (by omega)))
    simp [this]

/-- ClrlsldiSrd. -/
theorem clr_mask (k p s : Nat) (hk : k < 64) (hp : p < 64) (hs : s ≤ p) : ((2 ^ (64 - k) - 1) &&& (2 ^ (64 - p) - 1)) * 2 ^ s = rn s (64 - max k p) := by
  apply Nat.eq_of_testBit_eq
  intro j
  rw [Nat.mul_comm, Nat.testBit_two_pow_mul, Nat.testBit_and, Nat.testBit_two_pow_sub_one, Nat.testBit_two_pow_sub_one, rn_bit]
  by_cases h : s ≤ j
  · simp only [h, decide_true, Bool.true_and]
    rw [Bool.eq_iff_iff]; simp; omega
  · simp [h]
theorem clr_want (x k p s : Nat) (hx : x < 2 ^ 64) (hp : p < 64) (hk : k < 64) :
    ((x / 2 ^ k * 2 ^ p % 2 ^ 64) / 2 ^ p * 2 ^ s) % 2 ^ 64 = (x / 2 ^ k * 2 ^ s) % 2 ^ 64 &&& rn s (64 - max k p) := by
  apply Nat.eq_of_testBit_eq
  intro j
  simp only [Nat.testBit_and, bit_mod, rn_bit, Nat.mul_comm _ (2 ^ s), Nat.mul_comm _ (2 ^ p), Nat.testBit_two_pow_mul, Nat.testBit_div_two_pow]
  by_cases h1 : j < 64
  · by_cases h2 : s ≤ j
    · simp only [h1, h2, decide_true, Bool.true_and]
      have e : j - s + p - p + k = j - s + k := by omega
      rw [e]
      cases hb : x.testBit (j - s + k)
      · simp
      · have := lt_of_bit hx hb
        rw [Bool.eq_iff_iff]; simp; omega
    · simp [h2]
  · simp [h1]
theorem clrlsldi_srd (x k p s : Nat) (hk : k < 64) (hp : p < 64) (hs : s ≤ p) (hx : x < 2 ^ 64) (h1 : rn s (64 - max k p) < 2 ^ 32)
    (h2 : rot 64 (rn 32 32) ((64 - k + s) % 64) &&& rn s (64 - max k p) = 0) :
    rot 32 (x % 2 ^ 32) ((64 - k + s) % 64 % 32) &&& rn s (64 - max k p) = ((x / 2 ^ k * 2 ^ p % 2 ^ 64) / 2 ^ p * 2 ^ s) % 2 ^ 64 := by
  have hy : x % 2 ^ 32 < 2 ^ 32 := Nat.mod_lt _ (by decide)
  rw [clr_want x k p s hx hp hk]
  apply Nat.eq_of_testBit_eq
  intro j
  have h1' := @lt_of_bit _ 32 h1 j
  have h2' : ((rot 64 (rn 32 32) ((64 - k + s) % 64)) &&& rn s (64 - max k p)).testBit j = false := by rw [h2]; simp
  rw [Nat.testBit_and] at h2'
  rw [Nat.testBit_and, Nat.testBit_and]
  cases hm : (rn s (64 - max k p)).testBit j
  · simp
  · have hj := h1' hm
    rw [hm, rot_bit 64 _ _ j (rn_lt 32 32 64 (by omega)) (by omega) (by omega), rn_bit] at h2'
    rw [rn_bit] at hm
    simp only [Bool.and_eq_true, decide_eq_true_eq] at hm
    simp only [Bool.and_true, Bool.and_eq_false_iff, decide_eq_false_iff_not] at h2'
    rw [rot_bit 32 _ _ j hy (by omega) hj, bit_mod, bit_mod, Nat.mul_comm _ (2 ^ s), Nat.testBit_two_pow_mul, Nat.testBit_div_two_pow]
    have hjk : j - s + k < 32 := by
      split at h2' <;> omega
    have e : (if (64 - k + s) % 64 % 32 ≤ j then j - (64 - k + s) % 64 % 32 else j + 32 - (64 - k + s) % 64 % 32) = j - s + k := by split <;> omega
    rw [e]
    have e1 : decide (j - s + k < 32) = true := by simp; omega
    have e2 : decide (j < 64) = true := by simp; omega
    have e3 : decide (j ≥ s) = true := by simp; omega
    rw [e1, e2, e3]; simp
/-- the two ends that the code stores, of nb bits. -/
def ends (nb m : Nat) : Nat × Nat :=
  if nb - Lib.bitLen m = 0 ∧ nb - Lib.ctz nb m = nb then (nb - Lib.ctz nb (2 ^ nb - 1 - m), nb - Lib.bitLen (2 ^ nb - 1 - m)) else (nb - Lib.bitLen m, nb - Lib.ctz nb m)
/-- the mask that the code reads back. -/
def dmask (nb mb me : Nat) : Nat :=
  let x := ((2 ^ (nb - mb) % 2 ^ 64 + (2 ^ 64 - 1)) % 2 ^ 64) ^^^ ((2 ^ (nb - me) % 2 ^ 64 + (2 ^ 64 - 1)) % 2 ^ 64)
  let y := if me < mb then (2 ^ 64 - 1) ^^^ x else x
  if nb = 32 then y % 2 ^ 32 else y
def ok (m : Nat) : Bool := decide ((ends 32 m).1 ≤ 32) && decide ((ends 32 m).2 ≤ 32) && (dmask 32 (ends 32 m).1 (ends 32 m).2 == m)
def okRun (i n : Nat) : Bool := ok (rn i n) && decide (ends 32 (rn i n) = (32 - (i + n), 32 - i))
def okCo (i n : Nat) : Bool := ok (2 ^ 32 - 1 - rn i n) && (decide (i = 0) || decide (i + n = 32) || decide (ends 32 (2 ^ 32 - 1 - rn i n) = (32 - i, 32 - (i + n))))
def allRun : Bool := (List.range 33).all fun i => (List.range 33).all fun n => n == 0 || decide (32 < i + n) || okRun i n
def allCo : Bool := (List.range 33).all fun i => (List.range 33).all fun n => n == 0 || decide (32 < i + n) || (i == 0 && n == 32) || okCo i n
theorem run_all : allRun = true := by decide +kernel
theorem co_all : allCo = true := by decide +kernel
theorem at_range {f : Nat → Nat → Bool} {k : Nat} (h : ((List.range k).all fun i => (List.range k).all fun n => f i n) = true) (i n : Nat) (hi : i < k) (hn : n < k) : f i n = true :=
  List.all_eq_true.1 (List.all_eq_true.1 h i (by simpa using hi)) n (by simpa using hn)
theorem run_ok (i n : Nat) (hn : 1 ≤ n) (hi : i + n ≤ 32) : ok (rn i n) = true ∧ ends 32 (rn i n) = (32 - (i + n), 32 - i) := by
  have := at_range run_all i n (by omega) (by omega)
  simp only [Bool.or_eq_true, beq_iff_eq, decide_eq_true_eq, okRun, Bool.and_eq_true] at this
  rcases this with (h | h) | h
  · omega
  · omega
  · exact h
theorem co_ok (i n : Nat) (hn : 1 ≤ n) (hi : i + n ≤ 32) (h0 : ¬ (i = 0 ∧ n = 32)) : ok (2 ^ 32 - 1 - rn i n) = true ∧ (i = 0 ∨ i + n = 32 ∨ ends 32 (2 ^ 32 - 1 - rn i n) = (32 - i, 32 - (i + n))) := by
  have := at_range co_all i n (by omega) (by omega)
  simp only [Bool.or_eq_true, beq_iff_eq, decide_eq_true_eq, okCo, Bool.and_eq_true] at this
  rcases this with ((h | h) | h) | h
  · omega
  · omega
  · exact absurd h h0
  · refine ⟨h.1, ?_⟩
    rcases h.2 with (h | h) | h
    · exact .inl h
    · exact .inr (.inl h)
    · exact .inr (.inr h)
def okRun64 (i n : Nat) : Bool := decide (ends 64 (rn i n) = (64 - (i + n), 64 - i)) && (dmask 64 (64 - (i + n)) (64 - i) == rn i n)
def allRun64 : Bool := (List.range 65).all fun i => (List.range 65).all fun n => n == 0 || n == 64 || decide (64 < i + n) || okRun64 i n
theorem run64_all : allRun64 = true := by decide +kernel
theorem run64_ok (i n : Nat) (hn : 1 ≤ n) (hn' : n < 64) (hi : i + n ≤ 64) : ends 64 (rn i n) = (64 - (i + n), 64 - i) ∧ dmask 64 (64 - (i + n)) (64 - i) = rn i n := by
  have := at_range run64_all i n (by omega) (by omega)
  simp only [Bool.or_eq_true, beq_iff_eq, decide_eq_true_eq, okRun64, Bool.and_eq_true] at this
  rcases this with ((h | h) | h) | h
  · omega
  · omega
  · omega
  · exact h

theorem c13 (w : World) : Calls Tryd.prog 13 #[] w fun e w' => e = .returned (.bool true) ∧ w' = w := by
  have e6 : wr 6 = true := by rw [wr_any 6 6 (by decide)]; decide +kernel
  have H6 := Lib.hid e6
  clear e6
  go_enter Tryd.func13, Tryd.ntmps13
  go_wp2_with (go_at_call 30; refine (c30 _ _).mono ?_; rintro e w' ⟨rfl, rfl⟩; rw [H6.out])
  go_ret
  exact ⟨rfl, rfl⟩
/-- a word that is told to be a mask comes back from its ends. -/
theorem ok_of_wr (x : Nat) (hx : x < 4294967296) (h : st (x.testBit 31) 32 x = 1 ∨ x = 4294967295) : ok x = true := by
  rcases h with h | h
  · cases hb : x.testBit 31 with
    | false =>
      rw [hb] at h
      obtain ⟨i, n, hn, hi, e⟩ := st_one 32 x (by simpa using hx) h
      rw [e]
      exact (run_ok i n hn hi).1
    | true =>
      rw [hb] at h
      have u := updown 32 true x (by simpa using hx)
      rw [h, show lst true 32 x = x.testBit 31 from lst_bit 31 true x, hb] at u
      have hc : st false 32 (2 ^ 32 - 1 - x) = 1 := by simp only [nb, Bool.not_true, if_true] at u; omega
      obtain ⟨i, n, hn, hi, e⟩ := st_one 32 (2 ^ 32 - 1 - x) (by simp at hx ⊢; omega) hc
      have e' : x = 2 ^ 32 - 1 - rn i n := by unfold rn; rw [← e]; simp at hx ⊢; omega
      have h0 : ¬ (i = 0 ∧ n = 32) := by
        rintro ⟨rfl, rfl⟩
        have : x = 0 := by rw [e']; decide
        rw [this] at hb; simp at hb
      rw [e']
      exact (co_ok i n hn hi h0).1
  · have := (run_ok 0 32 (by omega) (by omega)).1
    rw [show rn 0 32 = x by rw [h]; decide] at this
    exact this
theorem ok_is (x : Nat) (h : ok x = true) : (ends 32 x).1 ≤ 32 ∧ (ends 32 x).2 ≤ 32 ∧ dmask 32 (ends 32 x).1 (ends 32 x).2 = x := by
  unfold ok at h
  simp only [Bool.and_eq_true, decide_eq_true_eq, beq_iff_eq] at h
  exact ⟨h.1.1, h.1.2, h.2⟩
end Go.Proofs.YtmldgakbkachpaaDoor.Wd
