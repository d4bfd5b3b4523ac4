/- isPPC64WordRotateMask: what it returns, for every int64; no condition. -/
import Derived.Test.YtmldgakbkachpaaPFnRotateMaskIsx1
import Derived.Test.YtmldgakbkachpaaKit
import Derived.Lib.Hide
namespace Go.Proofs.Ytmldgakbkachpaa.Word
open Go.RowKit Go.Proofs.YtmldgakbkachpaaW.PrintWords Go.Proofs.YtmldgakbkachpaaW.PrintLast Go.Proofs.Ytmldgakbkachpaa.Kit
def nt32 (n : Int) : Int := Go.bits .xor .u32 4294967295 n
theorem un32 (n : Int) : Op.unary .xor (.int .u32 n) = pure (.int .u32 (nt32 n)) := by
  show Op.intBits .xor .u32 (if IntKind.u32.signed then -1 else IntKind.u32.max) n = _
  rw [show (if IntKind.u32.signed then -1 else IntKind.u32.max) = (4294967295 : Int) from by decide +kernel]
  rfl
/-- what the code reckons, as the walk spells it. -/
def wr (a : Int) : Bool := ((Go.bits .and .u32 (a % 4294967296) ((Go.bits .and .u32 (a % 4294967296) (-(a % 4294967296) % 4294967296) + a) % 4294967296) == 0) ||
  (Go.bits .and .u32 (nt32 (a % 4294967296)) ((Go.bits .and .u32 (nt32 (a % 4294967296)) (-nt32 (a % 4294967296) % 4294967296) + nt32 (a % 4294967296)) % 4294967296) == 0)) && (a % 4294967296 != 0)
set_option maxRecDepth 100000 in
theorem word_calls (a : Int) (w : World) : Calls Try.prog 33 #[.int .i64 a] w fun e w' => e = .returned (.bool (wr a)) ∧ w' = w := by
  have hun := un32
  go_enter Try.func33, Try.ntmps33
  go_wp2
  all_goals (go_ret; exact ⟨by simp_all [wr], rfl⟩)
theorem c24 (a : Int) (w : World) : Calls Try.prog 24 #[.int .i64 a] w fun e w' => e = .returned (.bool (wr a)) ∧ w' = w := by
  go_enter Try.func24, Try.ntmps24
  go_wp2_with (go_at_call 33; refine (word_calls _ _).mono ?_; rintro e w' ⟨rfl, rfl⟩)
  go_ret
  exact ⟨rfl, rfl⟩
theorem c13 (a : Int) (w : World) : Calls Try.prog 13 #[.int .i64 a] w fun e w' => e = .returned (.bool (wr a)) ∧ w' = w := by
  go_enter Try.func13, Try.ntmps13
  go_wp2_with (go_at_call 24; refine (c24 _ _).mono ?_; rintro e w' ⟨rfl, rfl⟩)
  go_ret
  exact ⟨rfl, rfl⟩
theorem nt32_nat (x : Nat) (hx : x < 4294967296) : nt32 (x : Int) = ((4294967295 - x : Nat) : Int) := by
  unfold nt32
  rw [bits_u32]
  simp only []
  have e : (BitVec.ofInt 32 4294967295 ^^^ BitVec.ofInt 32 (x : Int)) = ~~~ (BitVec.ofInt 32 (x : Int)) := by
    rw [show BitVec.ofInt 32 4294967295 = BitVec.allOnes 32 from by decide, BitVec.allOnes_xor]
  rw [e, BitVec.toNat_not, BitVec.ofInt_natCast, BitVec.toNat_ofNat]
  omega
theorem half (x : Nat) (a : Int) (hx : x < 4294967296) (ha : (a - x) % 4294967296 = 0) :
    (Go.bits .and .u32 (x : Int) ((Go.bits .and .u32 (x : Int) (-(x : Int) % 4294967296) + a) % 4294967296) == 0) = decide (st false 32 x ≤ 1) := by
  have M : (2 : Nat) ^ 32 = 4294967296 := by decide
  have e1 : (-(x : Int)) % 4294967296 = (((4294967296 - x) % 4294967296 : Nat) : Int) := by omega
  have hl : low 32 x = x &&& ((4294967296 - x) % 4294967296) := by unfold low; rw [M]
  rw [e1, bits_and_u32n x _ hx (Nat.mod_lt _ (by decide)), ← hl]
  have t := run_test 32 x (by rw [M]; exact hx)
  rw [M] at t
  generalize low 32 x = l at *
  have e3 : ((l : Int) + a) % 4294967296 = (((l + x) % 4294967296 : Nat) : Int) := by omega
  rw [e3, bits_and_u32n x _ hx (Nat.mod_lt _ (by decide)), Bool.eq_iff_iff, decide_eq_true_eq, ← t, beq_iff_eq]
  omega
/-- the test, of the low 32 bits. -/
theorem wr_any (a : Int) (x : Nat) (hx : a % 4294967296 = (x : Int)) : wr a = decide (st (x.testBit 31) 32 x = 1 ∨ x = 4294967295) := by
  have M : (2 : Nat) ^ 32 = 4294967296 := by decide
  have hxl : x < 4294967296 := by omega
  unfold wr
  rw [hx, nt32_nat x hxl, half x a hxl (by omega), half (4294967295 - x) _ (by omega) (by simp)]
  have t := turned_test 31 x (by rw [M]; exact hxl)
  rw [show 31 + 1 = 32 from rfl, run_test 32 x (by rw [M]; exact hxl), M, show 4294967296 - 1 - x = 4294967295 - x from by omega, ← M, run_test 32 (4294967295 - x) (by rw [M]; omega), M, show 4294967296 - 1 = 4294967295 from rfl] at t
  rw [Bool.eq_iff_iff, decide_eq_true_eq, ← t]
  simp only [Bool.and_eq_true, Bool.or_eq_true, decide_eq_true_eq, bne_iff_ne, ne_eq]
  omega
end Go.Proofs.Ytmldgakbkachpaa.Word
