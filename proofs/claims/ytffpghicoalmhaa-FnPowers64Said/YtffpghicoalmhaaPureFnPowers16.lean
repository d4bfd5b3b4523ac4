/- FnPowers16 over numbers: a number of 16 bits is told to be a power of 2 exactly if it is one; no condition beyond the arguments being of their type. -/
import Derived.Test.YtffpghicoalmhaaPFnPowers16x1
import Derived.Test.YtffpghicoalmhaaKit
namespace Go.Proofs.Ytffpghicoalmhaa.Pure
open Go.RowKit Go.Proofs.Ytffpghicoalmhaa.PFnPowers16 Go.Proofs.YtffpghicoalmhaaW.PrintWords Go.Proofs.YtffpghicoalmhaaW.PrintLast Go.Proofs.Ytffpghicoalmhaa.Kit
/-- x is a power of 2, its place from i on. -/
noncomputable def isP (i x : Nat) : Bool := @decide (∃ j, i ≤ j ∧ j < 64 ∧ x = 2 ^ j) (Classical.propDecidable _)
theorem isP_iff (i x : Nat) : isP i x = true ↔ ∃ j, i ≤ j ∧ j < 64 ∧ x = 2 ^ j := by unfold isP; exact @decide_eq_true_iff _ (Classical.propDecidable _)
theorem isP_yes {i x : Nat} (h : ∃ j, i ≤ j ∧ j < 64 ∧ x = 2 ^ j) : some true = some (isP i x) := by rw [(isP_iff i x).2 h]
theorem isP_no {i x : Nat} (h : ¬ ∃ j, i ≤ j ∧ j < 64 ∧ x = 2 ^ j) : some false = some (isP i x) := by
  cases e : isP i x with
  | false => rfl
  | true => exact absurd ((isP_iff i x).1 e) h
/-- the reference's loop. -/
theorem loop_any (x : Nat) (d : Nat) : ∀ (k i : Nat), i + d = 64 → d < k → spec_IsPower.l0 k (x : Int) (i : Int) = some (isP i x) := by
  induction d with
  | zero =>
    intro k i hi hk
    obtain ⟨k, rfl⟩ : ∃ m, k = m + 1 := ⟨k - 1, by omega⟩
    simp only [spec_IsPower.l0]
    rw [if_neg (by omega)]
    exact isP_no (fun ⟨j, h1, h2, _⟩ => by omega)
  | succ d ih =>
    intro k i hi hk
    obtain ⟨k, rfl⟩ : ∃ m, k = m + 1 := ⟨k - 1, by omega⟩
    simp only [spec_IsPower.l0]
    rw [if_pos (by omega), if_pos (by omega)]
    have hp : 2 ^ i < 2 ^ 64 := Nat.pow_lt_pow_right (by decide) (by omega)
    have hs : shl .u64 1 (i : Int) = ((2 ^ i : Nat) : Int) := by
      unfold shl
      have hc : ((2 : Int) ^ i) = ((2 ^ i : Nat) : Int) := by simp
      rw [Int.toNat_natCast, Nat.min_eq_left (show i ≤ IntKind.u64.bits by simp [IntKind.bits]; omega), Int.one_mul, hc, wu64 (Int.natCast_nonneg _) (by omega)]
    rw [hs]
    by_cases h : x = 2 ^ i
    · rw [if_pos (by exact_mod_cast h)]
      exact isP_yes ⟨i, by omega, by omega, h⟩
    · rw [if_neg (fun e => h (by exact_mod_cast e)), w64 (by omega) (by omega)]
      have := ih k (i + 1) (by omega) (by omega)
      rw [show ((i : Int) + 1) = ((i + 1 : Nat) : Int) by simp, this]
      congr 1
      rw [Bool.eq_iff_iff, isP_iff, isP_iff]
      refine ⟨fun ⟨j, h1, h2, h3⟩ => ⟨j, by omega, h2, h3⟩, fun ⟨j, h1, h2, h3⟩ => ⟨j, ?_, h2, h3⟩⟩
      rcases Nat.lt_or_ge i j with g | g
      · omega
      · have : j = i := by omega
        subst this; exact absurd h3 h
theorem is_any (x : Nat) : spec_IsPower.f 70 (x : Int) = some (isP 0 x) := by
  unfold spec_IsPower.f
  have := loop_any x 64 70 0 (by omega) (by omega)
  rw [show ((0 : Nat) : Int) = 0 from rfl] at this
  rw [this]
theorem pow_iff (w x : Nat) (hw : w ≤ 64) (hx : x < 2 ^ w) (h0 : x ≠ 0) : x &&& (x - 1) = 0 ↔ isP 0 x = true := by
  rw [pow_test w x hx h0, isP_iff]
  constructor
  · rintro ⟨j, h1, h2⟩; exact ⟨j, by omega, by omega, h2⟩
  · rintro ⟨j, _, h1, h2⟩
    refine ⟨j, ?_, h2⟩
    rcases Nat.lt_or_ge j w with g | g
    · exact g
    · have := Nat.pow_le_pow_right (n := 2) (by decide) g; omega
theorem band16 (a b : Nat) (ha : a < 32768) (hb : b < 32768) : Go.bits .and .i16 (a : Int) (b : Int) = ((a &&& b : Nat) : Int) :=
  (bits_nat .i16 15 (by decide) (fun n h0 h1 => by simp [IntKind.wrap, IntKind.bits, IntKind.signed]; omega) a b (by simpa using ha) (by simpa using hb)).1
theorem bandu16 (a b : Nat) (ha : a < 65536) (hb : b < 65536) : Go.bits .and .u16 (a : Int) (b : Int) = ((a &&& b : Nat) : Int) :=
  (bits_nat .u16 16 (by decide) (fun n h0 h1 => by simp [IntKind.wrap, IntKind.bits, IntKind.signed]; omega) a b (by simpa using ha) (by simpa using hb)).1
theorem signed_yes (x : Nat) (h : 0 < x) (h1 : x < 32768) : impl_IsPower16.f (x : Int) = some (isP 0 x) := by
  unfold impl_IsPower16.f ssarewrite_ZZIsPowerOfTwo_int16.f ssarewrite_isPowerOfTwo_int16.f
  rw [if_pos (by omega)]
  have e : IntKind.i16.wrap ((x : Int) - 1) = ((x - 1 : Nat) : Int) := by simp [IntKind.wrap, IntKind.bits, IntKind.signed]; omega
  rw [e, band16 x (x - 1) h1 (by omega)]
  simp only [Option.bind_some]
  congr 1
  rw [Bool.eq_iff_iff, ← pow_iff 15 x (by decide) (by simpa using h1) (by omega)]; simp
theorem unsigned_any (x : Nat) (h1 : x < 65536) : impl_IsPower16u.f (x : Int) = some (isP 0 x) := by
  unfold impl_IsPower16u.f ssarewrite_ZZIsPowerOfTwo_uint16.f ssarewrite_isPowerOfTwo_uint16.f
  by_cases h : x = 0
  · subst h
    rw [if_neg (by simp)]
    simp only [Option.bind_some]
    exact isP_no (fun ⟨j, _, _, e⟩ => by have := Nat.two_pow_pos j; omega)
  · rw [if_pos (by omega)]
    have e : IntKind.u16.wrap ((x : Int) - 1) = ((x - 1 : Nat) : Int) := by simp [IntKind.wrap, IntKind.bits, IntKind.signed]; omega
    rw [e, bandu16 x (x - 1) h1 (by omega)]
    simp only [Option.bind_some]
    congr 1
    rw [Bool.eq_iff_iff, ← pow_iff 16 x (by decide) (by simpa using h1) h]; simp
theorem FnPowers16 : laws_FnPowers16.Pure := by
  intro a ha
  obtain ⟨h0, h1⟩ := wfi16 ha
  refine ⟨70, ?_⟩
  have h8 : impl_IsPower16.f 8 = some true := by
    have := signed_yes 8 (by decide) (by decide)
    rw [show (8 : Int) = ((8 : Nat) : Int) from rfl, this]; exact (isP_yes ⟨3, by decide, by decide, by decide⟩).symm
  have hu : ∃ u : Nat, IntKind.u16.wrap a = (u : Int) ∧ u < 65536 := ⟨(IntKind.u16.wrap a).toNat, by
    have : IntKind.u16.wrap a = a % 65536 := by simp [IntKind.wrap, IntKind.bits, IntKind.signed]
    rw [this]; omega, by
    have : IntKind.u16.wrap a = a % 65536 := by simp [IntKind.wrap, IntKind.bits, IntKind.signed]
    rw [this]; omega⟩
  obtain ⟨u, hu, hul⟩ := hu
  unfold laws_FnPowers16.f
  rw [hu, h8, unsigned_any u hul, wu64 (z := (u : Int)) (by omega) (by omega), is_any u]
  by_cases hp : a > 0
  · obtain ⟨x, rfl⟩ : ∃ x : Nat, a = (x : Int) := ⟨a.toNat, by omega⟩
    have hp' : (x : Int) > 0 := hp
    simp only [if_pos hp']
    rw [signed_yes x (by omega) (by omega), wu64 (z := (x : Int)) (by omega) (by omega), is_any x]
    simp
  · simp only [if_neg hp]
    have : impl_IsPower16.f a = some false := by
      unfold impl_IsPower16.f ssarewrite_ZZIsPowerOfTwo_int16.f ssarewrite_isPowerOfTwo_int16.f
      rw [if_neg hp]; rfl
    rw [this]
    simp
end Go.Proofs.Ytffpghicoalmhaa.Pure
