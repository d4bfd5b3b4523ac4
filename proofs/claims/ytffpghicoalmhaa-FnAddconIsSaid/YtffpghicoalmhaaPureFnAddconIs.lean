/- FnAddconIs over numbers: for every int64 v the code's test for an immediate of ADD and SUB agrees with the reference; no condition beyond v being an int64. -/
import Derived.Test.YtffpghicoalmhaaPFnAddconIsx1
import Derived.Test.YtffpghicoalmhaaKit
namespace Go.Proofs.Ytffpghicoalmhaa.Pure
open Go.RowKit Go.Proofs.Ytffpghicoalmhaa.PFnAddconIs Go.Proofs.YtffpghicoalmhaaW.PrintWords Go.Proofs.YtffpghicoalmhaaW.PrintLast Go.Proofs.Ytffpghicoalmhaa.Kit
theorem FnAddconIs : laws_FnAddconIs.Pure := by
  intro a h
  obtain ⟨_, h1⟩ := wfi64 h
  have e12 : shl .i64 1 12 = 4096 := by decide
  have h5 : impl_IsAddcon.f 5 = some true := by decide
  have key : impl_IsAddcon.f a = some (decide ((0 ≤ a ∧ a < 4096) ∨ (0 ≤ a ∧ a % 4096 = 0 ∧ a / 4096 < 4096))) := by
    unfold impl_IsAddcon.f ssarewrite_ZZIsARM64addcon.f ssarewrite_isARM64addcon.f
    by_cases hn : a < 0
    · rw [if_pos hn]; exact some_no (by omega)
    · rw [if_neg hn, and4095 a (by omega) h1]
      by_cases hm : a % 4096 = 0
      · rw [if_pos hm]; exact some_dec (by omega)
      · rw [if_neg hm]; exact some_dec (by omega)
  have key2 : spec_IsAddend.f a = some (decide ((0 ≤ a ∧ a < 4096) ∨ (0 ≤ a ∧ a % 4096 = 0 ∧ a / 4096 < 4096))) := by
    have f : ∀ b, spec_FitsU.f b 12 = some (decide (0 ≤ b ∧ b < 4096)) := by
      intro b
      unfold spec_FitsU.f
      rw [e12]
      by_cases hb : 0 ≤ b
      · rw [if_pos hb, if_pos (by decide)]; simp [hb]
      · rw [if_neg hb]; simp [hb]
    unfold spec_IsAddend.f
    rw [f]
    have ht : Int.tmod a 4096 = 0 ↔ a % 4096 = 0 := by
      rw [← Int.dvd_iff_tmod_eq_zero, Int.dvd_iff_emod_eq_zero]
    simp only [Option.bind_some]
    by_cases hc : 0 ≤ a ∧ a < 4096
    · rw [if_pos (by simp [hc])]; exact some_yes (.inl hc)
    · rw [if_neg (by simpa using hc)]
      by_cases hm : a % 4096 = 0
      · rw [if_pos (ht.2 hm)]
        by_cases hn : 0 ≤ a
        · have hd : Int.tdiv a 4096 = a / 4096 := Int.tdiv_eq_ediv_of_nonneg hn
          rw [hd, show wrap64 (a / 4096) = a / 4096 from by unfold wrap64; omega, f]
          exact some_dec (by omega)
        · have hd : Int.tdiv a 4096 < 0 := by
            obtain ⟨b, rfl⟩ : ∃ b, a = -b := ⟨-a, by omega⟩
            rw [Int.neg_tdiv, Int.tdiv_eq_ediv_of_nonneg (by omega)]; omega
          have hd2 : -9223372036854775808 ≤ Int.tdiv a 4096 := by
            obtain ⟨b, rfl⟩ : ∃ b, a = -b := ⟨-a, by omega⟩
            rw [Int.neg_tdiv, Int.tdiv_eq_ediv_of_nonneg (by omega)]; omega
          rw [show wrap64 (Int.tdiv a 4096) = Int.tdiv a 4096 from by unfold wrap64; omega, f]
          exact some_dec (by omega)
      · rw [if_neg (fun h => hm (ht.1 h))]; exact some_no (by omega)
  unfold laws_FnAddconIs.f
  rw [h5, key, key2]
  simp
end Go.Proofs.Ytffpghicoalmhaa.Pure
