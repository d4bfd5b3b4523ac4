/- FnRShiftMask over numbers: the mask told for a shift to the right keeps what the shift can leave of another one's bits; no condition beyond the arguments being of their type. -/
import Derived.Test.YtmldgakbkachpaaPFnRShiftMaskx1
import Derived.Test.YtmldgakbkachpaaKit
namespace Go.Proofs.Ytmldgakbkachpaa.Pure
open Go.RowKit Go.Proofs.Ytmldgakbkachpaa.PFnRShiftMask Go.Proofs.YtmldgakbkachpaaW.PrintWords Go.Proofs.YtmldgakbkachpaaW.PrintLast Go.Proofs.Ytmldgakbkachpaa.Kit
theorem and_same (m z : Int) : IntKind.u64.wrap (Go.bits .and .i64 m (wrap64 z)) = Go.bits .and .u64 (IntKind.u64.wrap m) z := by
  rw [bits_i64, bits_u64, wrap_u64, wrap_u64, wrap64_eq]
  simp only []
  rw [BitVec.ofInt_toInt, BitVec.ofInt_toInt, BitVec.ofInt_natCast, BitVec.ofNat_toNat, BitVec.setWidth_eq]
theorem FnRShiftMask : laws_FnRShiftMask.Pure := by
  intro m s wide _ _
  refine ⟨5, ?_⟩
  have h7 : impl_RShiftMask.f 7 0 32 = some 7 := by decide +kernel
  have r : ∀ n : Int, 0 < n → n ≤ 64 → laws_rwAt.f s n = some (s % n) := by
    intro n h0 h1; unfold laws_rwAt.f; rw [if_neg (by omega), rw_at s n h0 (by omega)]
  have key : ∀ b : Int, (b = 32 ∨ b = 64) → laws_FnRShiftMask.j0 5 m s b = some true := by
    intro b hb
    have hb0 : 0 < b := by omega
    have k0 := Int.emod_nonneg s (b := b) (by omega)
    have k1 := Int.emod_lt_of_pos s hb0
    simp only [laws_FnRShiftMask.j0]
    rw [w64 (z := b) (by omega) (by omega), r b hb0 (by omega)]
    simp only [Option.bind_some]
    generalize s % b = k at *
    rw [wu64 (z := k) k0 (by omega), w64 (z := k) (by omega) (by omega), h7]
    have hr : spec_Run.f 0 b = some (IntKind.u64.wrap ((shl .u64 1 b) - 1)) := by
      rcases hb with rfl | rfl <;> decide +kernel
    have hi : impl_RShiftMask.f m k b = some (Go.bits .and .i64 m (wrap64 (shr .u64 (IntKind.u64.wrap ((shl .u64 1 b) - 1)) k))) := by
      unfold impl_RShiftMask.f ssarewrite_ZZMergePPC64RShiftMask.f ssarewrite_mergePPC64RShiftMask.f
      rw [wu64 (z := b) (by omega) (by omega), wu64 (z := k) k0 (by omega), if_pos (by omega), if_pos k0]
      rfl
    rw [hr, hi]
    simp only [Option.bind_some]
    rw [if_pos k0, if_pos (and_same _ _)]
    rfl
  unfold laws_FnRShiftMask.f
  cases wide
  · rw [if_neg (by simp)]; exact key 32 (.inl rfl)
  · rw [if_pos rfl]; exact key 64 (.inr rfl)
end Go.Proofs.Ytmldgakbkachpaa.Pure
