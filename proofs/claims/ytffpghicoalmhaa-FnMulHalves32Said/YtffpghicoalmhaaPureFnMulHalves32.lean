/- FnMulHalves32 over numbers: the product of two uint32 comes in its two halves; no condition beyond the arguments being of their type. -/
import Derived.Test.YtffpghicoalmhaaPFnMulHalves32x1
import Derived.Test.YtffpghicoalmhaaKit
namespace Go.Proofs.Ytffpghicoalmhaa.Pure
open Go.RowKit Go.Proofs.Ytffpghicoalmhaa.PFnMulHalves32 Go.Proofs.YtffpghicoalmhaaW.PrintWords Go.Proofs.YtffpghicoalmhaaW.PrintLast Go.Proofs.Ytffpghicoalmhaa.Kit
theorem FnMulHalves32 : laws_FnMulHalves32.Pure := by
  intro a b ha hb
  have h0 : impl_UaddOvf.f (-1) 1 = some true := by decide
  unfold laws_FnMulHalves32.f impl_BitsMulU32.f ssarewrite_ZZBitsMulU32.f ssarewrite_bitsMulU32.f bits_Mul32.f
  rw [h0]
  simp only [Option.bind_some]
  have x0 := Int.emod_nonneg a (b := 4294967296) (by omega)
  have x1 := Int.emod_lt_of_pos a (b := 4294967296) (by omega)
  have y0 := Int.emod_nonneg b (b := 4294967296) (by omega)
  have y1 := Int.emod_lt_of_pos b (b := 4294967296) (by omega)
  generalize a % 4294967296 = x at *
  generalize b % 4294967296 = y at *
  have p0 : 0 ≤ x * y := Int.mul_nonneg x0 y0
  have p1 : x * y ≤ 4294967295 * 4294967295 := Int.mul_le_mul (by omega) (by omega) y0 (by omega)
  rw [wu64 (z := x) (by omega) (by omega), wu64 (z := y) (by omega) (by omega), wu64 (z := x * y) p0 (by omega)]
  generalize x * y = p at *
  unfold wrap32
  rw [if_pos (by omega), if_pos (by omega)]
end Go.Proofs.Ytffpghicoalmhaa.Pure
