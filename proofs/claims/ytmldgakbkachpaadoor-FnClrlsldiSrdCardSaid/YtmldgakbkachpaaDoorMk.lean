/- The reference's Mask and Run, of 32 and of 64 bits, at all their places, by the kernel. No condition. -/
import Derived.Test.YtmldgakbkachpaaDoorLw
namespace Go.Proofs.YtmldgakbkachpaaDoor.Mk
open Go.RowKit Go.Proofs.YtmldgakbkachpaaDoorW.PrintWords Go.Proofs.YtmldgakbkachpaaDoorW.PrintLast Go.Proofs.YtmldgakbkachpaaDoorW.PrintMore Go.Proofs.YtmldgakbkachpaaDoor.Kit Go.Proofs.YtmldgakbkachpaaDoor.Sp Go.Proofs.YtmldgakbkachpaaDoor.Wd Go.Proofs.YtmldgakbkachpaaDoor.En Go.Proofs.YtmldgakbkachpaaDoor.De Go.Proofs.YtmldgakbkachpaaDoor.Gd Go.Proofs.YtmldgakbkachpaaDoor.Lw
def mk32 (p q : Nat) : Bool := spec_Mask.f 70 (p : Int) (q : Int) 32 == some ((if p ≤ q then rn (31 - q) (q - p + 1) else 2 ^ 32 - 1 - rn (32 - p) (p - q - 1) : Nat) : Int)
theorem mk32_all : ((List.range 32).all fun p => (List.range 32).all fun q => mk32 p q) = true := by decide +kernel
theorem mask32 (p q : Nat) (hp : p < 32) (hq : q < 32) : spec_Mask.f 70 (p : Int) (q : Int) 32 = some ((if p ≤ q then rn (31 - q) (q - p + 1) else 2 ^ 32 - 1 - rn (32 - p) (p - q - 1) : Nat) : Int) := by
  have := at_range mk32_all p q hp hq
  unfold mk32 at this
  exact beq_iff_eq.1 this
def mk64 (p q : Nat) : Bool := decide (q < p) || spec_Mask.f 70 (p : Int) (q : Int) 64 == some ((rn (63 - q) (q - p + 1) : Nat) : Int)
theorem mk64_all : ((List.range 64).all fun p => (List.range 64).all fun q => mk64 p q) = true := by decide +kernel
theorem mask64 (p q : Nat) (h : p ≤ q) (hq : q < 64) : spec_Mask.f 70 (p : Int) (q : Int) 64 = some ((rn (63 - q) (q - p + 1) : Nat) : Int) := by
  have := at_range mk64_all p q (by omega) hq
  unfold mk64 at this
  simp only [Bool.or_eq_true, beq_iff_eq, decide_eq_true_eq] at this
  rcases this with h' | h'
  · omega
  · exact h'
def run64 (i n : Nat) : Bool := n == 0 || n == 64 || decide (64 < i + n) || (spec_Run.f (i : Int) (n : Int) == some (rn i n : Int))
theorem run64_all : ((List.range 65).all fun i => (List.range 65).all fun n => run64 i n) = true := by decide +kernel
theorem spec_run64 (i n : Nat) (hn : 1 ≤ n) (hn' : n < 64) (hi : i + n ≤ 64) : spec_Run.f (i : Int) (n : Int) = some (rn i n : Int) := by
  have := at_range run64_all i n (by omega) (by omega)
  unfold run64 at this
  simp only [Bool.or_eq_true, beq_iff_eq, decide_eq_true_eq] at this
  rcases this with ((h | h) | h) | h
  · omega
  · omega
  · omega
  · exact h
end Go.Proofs.YtmldgakbkachpaaDoor.Mk
