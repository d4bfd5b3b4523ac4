/- FnSequenceIs over numbers: a word other than 0 is told to be a sequence of ones exactly if it is a run of them; no condition beyond the arguments being of their type. -/
import Derived.Test.YtffpghicoalmhaaPFnSequenceIsx1
import Derived.Test.YtffpghicoalmhaaKit
namespace Go.Proofs.Ytffpghicoalmhaa.Pure
open Go.RowKit Go.Proofs.Ytffpghicoalmhaa.PFnSequenceIs Go.Proofs.YtffpghicoalmhaaW.PrintWords Go.Proofs.YtffpghicoalmhaaW.PrintLast Go.Proofs.Ytffpghicoalmhaa.Kit
theorem pow64 {i : Nat} (h : i < 64) : 2 ^ i < 18446744073709551616 := by
  have : 2 ^ i < 2 ^ 64 := Nat.pow_lt_pow_right (by decide) h
  simpa using this
theorem shr_nat (x i : Nat) (h : i ≤ 64) : shr .u64 (x : Int) (i : Int) = ((x / 2 ^ i : Nat) : Int) := by
  unfold shr
  rw [Int.toNat_natCast, Nat.min_eq_left (show i ≤ IntKind.u64.bits from h)]
  simp
theorem bit_any (x i : Nat) (h : i ≤ 64) : spec_bit.f (x : Int) (i : Int) = some (((x / 2 ^ i) % 2 : Nat) : Int) := by
  unfold spec_bit.f
  rw [if_pos (by omega), shr_nat x i h, tmod_nn (Int.natCast_nonneg _)]
  simp
/-- the loop of IsRun from place i on, the bit below it being p. -/
theorem run_loop (x d : Nat) : ∀ (k i s : Nat) (p : Bool), i + d = 64 → d < k → s ≤ i → (p = if i = 0 then false else decide ((x / 2 ^ (i - 1)) % 2 = 1)) →
    spec_IsRun.l0 k (x : Int) (s : Int) (i : Int) = some (decide (s + st p d (x / 2 ^ i) = 1)) := by
  induction d with
  | zero =>
    intro k i s p hi hk hs hp
    obtain ⟨k, rfl⟩ : ∃ m, k = m + 1 := ⟨k - 1, by omega⟩
    simp only [spec_IsRun.l0]
    rw [if_neg (by omega)]
    refine congrArg some ?_
    have e : s + st p 0 (x / 2 ^ i) = s := rfl
    rw [Bool.eq_iff_iff, beq_iff_eq, decide_eq_true_eq, e]
    omega
  | succ d ih =>
    intro k i s p hi hk hs hp
    obtain ⟨k, rfl⟩ : ∃ m, k = m + 1 := ⟨k - 1, by omega⟩
    have hdiv : x / 2 ^ (i + 1) = x / 2 ^ i / 2 := by rw [Nat.pow_succ, Nat.div_div_eq_div_mul]
    have next : ∀ t, t ≤ i + 1 → spec_IsRun.l0 k (x : Int) (t : Int) ((i : Int) + 1) = some (decide (t + st (decide ((x / 2 ^ i) % 2 = 1)) d (x / 2 ^ i / 2) = 1)) := by
      intro t ht
      have := ih k (i + 1) t (decide ((x / 2 ^ i) % 2 = 1)) (by omega) (by omega) ht (by rw [if_neg (by omega)]; rfl)
      rw [hdiv] at this
      rw [← this]; rfl
    simp only [spec_IsRun.l0]
    rw [if_pos (by omega), bit_any x i (by omega), wu64 (z := (i : Int) + 1) (by omega) (by omega), w64 (z := (s : Int) + 1) (by omega) (by omega)]
    simp only [Option.bind_some]
    have n1 := next (s + 1) (by omega)
    have n0 := next s (by omega)
    rw [show (((s + 1 : Nat)) : Int) = (s : Int) + 1 from rfl] at n1
    by_cases hb : (x / 2 ^ i) % 2 = 1
    · rw [if_pos (by omega)]
      by_cases h0 : i = 0
      · rw [if_pos (by omega), n1, hp, if_pos h0]
        simp only [st, hb]
        refine congrArg some ?_
        rw [decide_eq_decide]
        simp
        omega
      · rw [if_neg (by omega)]
        have e1 : IntKind.u64.wrap ((i : Int) - 1) = ((i - 1 : Nat) : Int) := by rw [wu64 (by omega) (by omega)]; omega
        rw [e1, bit_any x (i - 1) (by omega)]
        simp only [Option.bind_some]
        rw [hp, if_neg h0]
        by_cases hc : (x / 2 ^ (i - 1)) % 2 = 1
        · rw [if_neg (by omega), n0]
          simp only [st, hb, hc]
          simp
        · rw [if_pos (by omega), n1]
          simp only [st, hb, hc]
          refine congrArg some ?_
          rw [decide_eq_decide]
          simp
          omega
    · rw [if_neg (by omega), n0]
      simp only [st, hb]
      simp
theorem isRun_any (x : Nat) : spec_IsRun.f 70 (x : Int) = some (decide (st false 64 x = 1)) := by
  unfold spec_IsRun.f
  have := run_loop x 64 70 0 0 false (by omega) (by omega) (by omega) rfl
  rw [show ((0 : Nat) : Int) = 0 from rfl] at this
  rw [this]
  simp
theorem seq_any (x : Nat) (hx : x < 18446744073709551616) (h0 : x ≠ 0) : impl_SequenceOfOnes.f (x : Int) = some (decide (st false 64 x = 1)) := by
  unfold impl_SequenceOfOnes.f ssarewrite_ZZSequenceOfOnes.f ssarewrite_sequenceOfOnes.f
  have M : (2 : Nat) ^ 64 = 18446744073709551616 := by decide
  have t := seq_test 64 x (by rw [M]; exact hx) h0
  rw [M] at t
  have hl : low 64 x = x &&& ((18446744073709551616 - x) % 18446744073709551616) := by unfold low; rw [M]
  have e1 : IntKind.u64.wrap (-(x : Int)) = (((18446744073709551616 - x) % 18446744073709551616 : Nat) : Int) := by rw [wu64m]; omega
  rw [e1, bits_and_u64n x _ hx (by omega), ← hl]
  generalize low 64 x = l at *
  have e3 : IntKind.u64.wrap ((l : Int) + (x : Int)) = (((l + x) % 18446744073709551616 : Nat) : Int) := by rw [wu64m]; omega
  rw [e3]
  have hyl : (l + x) % 18446744073709551616 < 18446744073709551616 := Nat.mod_lt _ (by decide)
  generalize (l + x) % 18446744073709551616 = y at *
  have e4 : IntKind.u64.wrap ((y : Int) - 1) = (((y + (18446744073709551616 - 1)) % 18446744073709551616 : Nat) : Int) := by rw [wu64m]; omega
  rw [e4, bits_and_u64n _ _ (Nat.mod_lt _ (by decide)) hyl]
  simp only [Option.bind_some]
  refine congrArg some ?_
  rw [Bool.eq_iff_iff, decide_eq_true_eq, ← t, beq_iff_eq]
  omega
theorem FnSequenceIs : laws_FnSequenceIs.Pure := by
  intro a ha
  obtain ⟨h0, h1⟩ := wfu64 ha
  obtain ⟨x, rfl⟩ : ∃ x : Nat, a = (x : Int) := ⟨a.toNat, by omega⟩
  refine ⟨70, ?_⟩
  have h12 : impl_SequenceOfOnes.f 12 = some true := by
    have := seq_any 12 (by decide) (by decide)
    rw [show (12 : Int) = ((12 : Nat) : Int) from rfl, this]; decide
  unfold laws_FnSequenceIs.f
  rw [h12, isRun_any]
  by_cases hz : x = 0
  · rw [if_pos (by omega)]; rfl
  · rw [if_neg (by omega), seq_any x (by omega) hz]
    simp
end Go.Proofs.Ytffpghicoalmhaa.Pure
