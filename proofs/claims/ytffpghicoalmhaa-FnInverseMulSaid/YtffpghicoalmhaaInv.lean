/- FnInverseMul: for all words x, y the inverse of the product of the odd words x|1 and y|1 is the product of their inverses; no condition. The walks, and the law over words. -/
import Derived.Test.YtffpghicoalmhaaPFnPowers16x0
import Derived.Test.YtffpghicoalmhaaKit
import Derived.Lib.Hide
namespace Go.Proofs.Ytffpghicoalmhaa.InvMul
open Go.RowKit Go.Proofs.YtffpghicoalmhaaW.PrintWords Go.Proofs.YtffpghicoalmhaaW.PrintLast Go.Proofs.Ytffpghicoalmhaa.Kit

/-- one step of Newton's method, as the code has it. -/
def nx (x y : Int) : Int := IntKind.u64.wrap (y * IntKind.u64.wrap (2 - IntKind.u64.wrap (x * y)))
theorem nx_word (x y : BitVec 64) : nx (x.toNat : Int) (y.toNat : Int) = ((nxt x y).toNat : Int) := by
  unfold nx nxt
  rw [wrap_u64, wrap_u64, wrap_u64]
  have e1 : BitVec.ofInt 64 ((x.toNat : Int) * (y.toNat : Int)) = x * y := by
    rw [BitVec.ofInt_mul, ofInt_nat, ofInt_nat, BitVec.setWidth_eq, BitVec.setWidth_eq]
  rw [e1]
  have e2 : BitVec.ofInt 64 (2 - ((x * y).toNat : Int)) = 2#64 - x * y := by
    rw [Int.sub_eq_add_neg, BitVec.ofInt_add, BitVec.ofInt_neg, ofInt_nat, BitVec.setWidth_eq, BitVec.sub_eq_add_neg]; rfl
  rw [e2]
  rw [BitVec.ofInt_mul, ofInt_nat, ofInt_nat, BitVec.setWidth_eq, BitVec.setWidth_eq]
def iv (x : Int) : Int := nx x (nx x (nx x (nx x (nx x x))))
theorem iv_word (x : BitVec 64) : iv (x.toNat : Int) = ((minv x).toNat : Int) := by
  unfold iv minv
  rw [nx_word, nx_word, nx_word, nx_word, nx_word]

theorem c70 (x : Int) (w : World) (h0 : 0 ≤ x) (h1 : x % 2 = 1) : Calls Try.prog 70 #[.int .u64 x] w fun e w' => e = .returned (.int .u64 (iv x)) ∧ w' = w := by
  have hd : (x % 2 != 1) = false := by rw [h1]; rfl
  clear h1
  go_enter Try.func70, Try.ntmps70
  go_wp2
  go_ret
  exact ⟨rfl, rfl⟩
theorem c54 (x : Int) (w : World) (h0 : 0 ≤ x) (h1 : x % 2 = 1) : Calls Try.prog 54 #[.int .u64 x] w fun e w' => e = .returned (.int .u64 (iv x)) ∧ w' = w := by
  have H := Lib.hid h1
  clear h1
  go_enter Try.func54, Try.ntmps54
  go_wp2_with (go_at_call 70; refine (c70 _ _ h0 H.out).mono ?_; rintro e w' ⟨rfl, rfl⟩)
  go_ret
  exact ⟨rfl, rfl⟩
theorem c35 (x : Int) (w : World) (h0 : 0 ≤ x) (h1 : x % 2 = 1) : Calls Try.prog 35 #[.int .u64 x] w fun e w' => e = .returned (.int .u64 (iv x)) ∧ w' = w := by
  have H := Lib.hid h1
  clear h1
  go_enter Try.func35, Try.ntmps35
  go_wp2_with (go_at_call 54; refine (c54 _ _ h0 H.out).mono ?_; rintro e w' ⟨rfl, rfl⟩)
  go_ret
  exact ⟨rfl, rfl⟩

theorem odd_mod (x : BitVec 64) : x.getLsbD 0 = true ↔ (x.toNat : Int) % 2 = 1 := by
  simp [BitVec.getLsbD, Nat.testBit_zero]
  omega
theorem or_word (a : Int) : Go.bits .or .u64 a 1 = ((BitVec.ofInt 64 a ||| 1#64).toNat : Int) := by rw [bits_u64]; rfl
theorem or_odd (x : BitVec 64) : (x ||| 1#64).getLsbD 0 = true := by simp

theorem walk (a b : Int) (W : World) (_ : (Lit.int .u64 a).wf = true) (_ : (Lit.int .u64 b).wf = true) :
    Calls Try.prog 12 #[.int .u64 a, .int .u64 b] W fun e W' => e = .returned (.bool true) ∧ Below W.heap.size W W' := by
  obtain ⟨X, hX, oX⟩ : ∃ X : BitVec 64, Go.bits .or .u64 a 1 = (X.toNat : Int) ∧ X.getLsbD 0 = true := ⟨_, or_word a, or_odd _⟩
  obtain ⟨Y, hY, oY⟩ : ∃ Y : BitVec 64, Go.bits .or .u64 b 1 = (Y.toNat : Int) ∧ Y.getLsbD 0 = true := ⟨_, or_word b, or_odd _⟩
  have hP : IntKind.u64.wrap ((X.toNat : Int) * (Y.toNat : Int)) = ((X * Y).toNat : Int) := by
    rw [wrap_u64, BitVec.ofInt_mul, ofInt_nat, ofInt_nat, BitVec.setWidth_eq, BitVec.setWidth_eq]
  have oP : (X * Y).getLsbD 0 = true := by
    rw [odd_mod] at oX oY ⊢
    rw [BitVec.toNat_mul]
    have : (X.toNat * Y.toNat) % 2 = 1 := by
      rw [Nat.mul_mod]
      have h1 : X.toNat % 2 = 1 := by omega
      have h2 : Y.toNat % 2 = 1 := by omega
      rw [h1, h2]
    omega
  have hQ : IntKind.u64.wrap (iv (X.toNat : Int) * iv (Y.toNat : Int)) = iv ((X * Y).toNat : Int) := by
    rw [iv_word, iv_word, iv_word, wrap_u64, BitVec.ofInt_mul, ofInt_nat, ofInt_nat, BitVec.setWidth_eq, BitVec.setWidth_eq, inv_prod X Y oX oY oP]
  have h3 : (IntKind.u64.wrap (iv 3 * 3) == 1) = true := by decide +kernel
  have iX := Lib.hid ((odd_mod X).1 oX)
  have iY := Lib.hid ((odd_mod Y).1 oY)
  have iP := Lib.hid ((odd_mod (X * Y)).1 oP)
  have HX := Lib.hid hX
  have HY := Lib.hid hY
  have HP := Lib.hid hP
  have HQ := Lib.hid hQ
  have H3 := Lib.hid h3
  have hq : (iv (IntKind.u64.wrap (Go.bits .or .u64 a 1 * Go.bits .or .u64 b 1)) == IntKind.u64.wrap (iv (Go.bits .or .u64 a 1) * iv (Go.bits .or .u64 b 1))) = true := by
    rw [hX, hY, hP, hQ]; simp
  clear hX hY hP hQ oX oY oP
  go_enter Try.func12, Try.ntmps12
  go_wp2_with (go_at_call 35; refine (c35 _ _
      (by first | (rw [HX.out, HY.out, HP.out]; exact Int.natCast_nonneg _) | (rw [HX.out]; exact Int.natCast_nonneg _) | (rw [HY.out]; exact Int.natCast_nonneg _) | decide)
      (by first | (rw [HX.out, HY.out, HP.out]; exact iP.out) | (rw [HX.out]; exact iX.out) | (rw [HY.out]; exact iY.out) | decide)).mono ?_; rintro e w' ⟨rfl, rfl⟩)
  go_ret
  exact ⟨by simp, Below.refl _ _⟩
end Go.Proofs.Ytffpghicoalmhaa.InvMul
