/- FnMergesFound: where what is left is one run of ones of a word of 32 bits, the operations are told to be one, for every input, over the tables that the library lays; no other condition. The walks. -/
import Derived.Test.YtmldgakbkachpaaDoorLw
namespace Go.Proofs.YtmldgakbkachpaaDoor.Mf
open Go.RowKit Go.Proofs.YtmldgakbkachpaaDoorW.PrintWords Go.Proofs.YtmldgakbkachpaaDoorW.PrintLast Go.Proofs.YtmldgakbkachpaaDoorW.PrintMore Go.Proofs.YtmldgakbkachpaaDoor.Kit Go.Proofs.YtmldgakbkachpaaDoor.Sp Go.Proofs.YtmldgakbkachpaaDoor.Wd Go.Proofs.YtmldgakbkachpaaDoor.En Go.Proofs.YtmldgakbkachpaaDoor.De Go.Proofs.YtmldgakbkachpaaDoor.Gd Go.Proofs.YtmldgakbkachpaaDoor.Lw
theorem andi_nat (a b : Nat) (ha : a < 9223372036854775808) (hb : b < 9223372036854775808) : Go.bits .and .i64 (a : Int) (b : Int) = ((a &&& b : Nat) : Int) := by
  rw [bits_i64]
  simp only []
  have h : (BitVec.ofInt 64 (a : Int) &&& BitVec.ofInt 64 (b : Int)).toNat = a &&& b := by
    rw [BitVec.toNat_and, BitVec.ofInt_natCast, BitVec.ofInt_natCast, BitVec.toNat_ofNat, BitVec.toNat_ofNat, Nat.mod_eq_of_lt (by omega), Nat.mod_eq_of_lt (by omega)]
  have := @Nat.and_le_left a b
  rw [toInt_eq, h, if_pos (by omega)]
def sm32 (k : Nat) : Bool := (wrap64 (shr .u64 (IntKind.u64.wrap ((shl .u64 1 (IntKind.u64.wrap 32)) - 1)) (IntKind.u64.wrap (k : Int))) == ((2 ^ (32 - k) - 1 : Nat) : Int)) && (Go.bits .and .i64 (32 - (k : Int)) 31 == ((32 - k) % 32 : Nat))
theorem sm32_all : ((List.range 32).all sm32) = true := by decide +kernel
theorem sm32_any (k : Nat) (h : k < 32) : wrap64 (shr .u64 (IntKind.u64.wrap ((shl .u64 1 (IntKind.u64.wrap 32)) - 1)) (IntKind.u64.wrap (k : Int))) = ((2 ^ (32 - k) - 1 : Nat) : Int) ∧ Go.bits .and .i64 (32 - (k : Int)) 31 = ((32 - k) % 32 : Nat) := by
  have := List.all_eq_true.1 sm32_all k (by simpa using h)
  unfold sm32 at this
  simpa only [Bool.and_eq_true, beq_iff_eq] using this
theorem rsm32 (m k : Nat) (hk : k < 32) (hm : m < 2 ^ (32 - k)) : ssarewrite_mergePPC64RShiftMask.f (m : Int) (k : Int) 32 = some (m : Int) := by
  have hp : 2 ^ (32 - k) ≤ 2 ^ 32 := Nat.pow_le_pow_right (by decide) (by omega)
  have M : (2 : Nat) ^ 32 = 4294967296 := by decide
  unfold ssarewrite_mergePPC64RShiftMask.f
  rw [if_pos (by decide +kernel), if_pos (by rw [wu64 (by omega) (by omega)]; omega), (sm32_any k hk).1, andi_nat m _ (by omega) (by omega), Nat.and_two_pow_sub_one_eq_mod, Nat.mod_eq_of_lt hm]
def wrRun (i n : Nat) : Bool := n == 0 || decide (32 < i + n) || wr ((rn i n : Nat) : Int)
theorem wrRun_all : ((List.range 33).all fun i => (List.range 33).all fun n => wrRun i n) = true := by decide +kernel
theorem wr_run (i n : Nat) (hn : 1 ≤ n) (hi : i + n ≤ 32) : wr ((rn i n : Nat) : Int) = true := by
  have := at_range wrRun_all i n (by omega) (by omega)
  unfold wrRun at this
  simp only [Bool.or_eq_true, beq_iff_eq, decide_eq_true_eq] at this
  rcases this with (h | h) | h
  · omega
  · omega
  · exact h
set_option maxHeartbeats 1000000 in
theorem c46 (i n k : Nat) (w : World) (hT : Tabs w) (hk : k < 32) (hn : 1 ≤ n) (hi : i + n ≤ 32 - k) :
    Calls Tryd.prog 46 #[.int .i64 (rn i n : Nat), .int .i64 k] w fun e w' => e = .returned (.int .i64 (cd ((32 - k) % 32) (rn i n) : Nat)) ∧ Drawn0 w w' := by
  have HR := Lib.hid (rsm32 (rn i n) k hk (rn_lt i n _ hi))
  have HW := Lib.hid (wr_run i n hn (by omega))
  have HE : Hid (∀ w, Tabs w → Calls Tryd.prog 47 #[.int .i64 (Go.bits .and .i64 (32 - (k : Int)) 31), .int .i64 (rn i n : Nat), .int .i64 32] w fun e w' => e = .returned (.int .i64 (cd ((32 - k) % 32) (rn i n) : Nat)) ∧ w' = w) := Lib.hid (fun w hT => by
    rw [(sm32_any k hk).2]
    exact enc_of ((32 - k) % 32) (rn i n) (by omega) (rn_pos _ _ hn) (rn_lt32 _ _ (by omega)) w hT)
  have HT := Lib.hid hT
  have hk' : (k : Int) < 32 := by omega
  clear hT hk hn hi
  generalize rn i n = m at *
  go_enter Tryd.func46, Tryd.ntmps46
  go_wp2_with (first
    | (go_at_call 57; refine (ssarewrite_mergePPC64RShiftMask.calls _ _ _ _ _ HR.out).mono ?_; rintro e w' ⟨rfl, ⟨n1, rfl⟩⟩)
    | (go_at_call 56; refine (word_calls _ _).mono ?_; rintro e w' ⟨rfl, rfl⟩; rw [HW.out])
    | (go_at_call 47; (with_reducible refine (HE.out _ ?hT).mono ?_); (case hT => exact HT.out); rintro e w' ⟨rfl, rfl⟩))
  go_ret
  exact ⟨rfl, ⟨_, rfl⟩⟩
theorem c33 (i n k : Nat) (w : World) (hT : Tabs w) (hk : k < 32) (hn : 1 ≤ n) (hi : i + n ≤ 32 - k) :
    Calls Tryd.prog 33 #[.int .i64 (rn i n : Nat), .int .i64 k] w fun e w' => e = .returned (.int .i64 (cd ((32 - k) % 32) (rn i n) : Nat)) ∧ Drawn0 w w' := by
  have H := Lib.hid (c46 i n k w hT hk hn hi)
  clear hT hk hn hi
  go_enter Tryd.func33, Tryd.ntmps33
  go_wp2_with (go_at_call 46; refine H.out.mono ?_; rintro e w' ⟨rfl, ⟨n1, rfl⟩⟩)
  go_ret
  exact ⟨rfl, ⟨_, rfl⟩⟩
theorem c16 (i n k : Nat) (w : World) (hT : Tabs w) (hk : k < 32) (hn : 1 ≤ n) (hi : i + n ≤ 32 - k) :
    Calls Tryd.prog 16 #[.int .i64 (rn i n : Nat), .int .i64 k] w fun e w' => e = .returned (.int .i64 (cd ((32 - k) % 32) (rn i n) : Nat)) ∧ Drawn0 w w' := by
  have H := Lib.hid (c33 i n k w hT hk hn hi)
  clear hT hk hn hi
  go_enter Tryd.func16, Tryd.ntmps16
  go_wp2_with (go_at_call 33; refine H.out.mono ?_; rintro e w' ⟨rfl, ⟨n1, rfl⟩⟩)
  go_ret
  exact ⟨rfl, ⟨_, rfl⟩⟩
def runAll : Bool := (List.range 33).all fun i => (List.range 33).all fun n => n == 0 || decide (32 < i + n) || (spec_Run.f (i : Int) (n : Int) == some (rn i n : Int))
theorem runAll_ok : runAll = true := by decide +kernel
theorem spec_run (i n : Nat) (hn : 1 ≤ n) (hi : i + n ≤ 32) : spec_Run.f (i : Int) (n : Int) = some (rn i n : Int) := by
  have := at_range runAll_ok i n (by omega) (by omega)
  simp only [Bool.or_eq_true, beq_iff_eq, decide_eq_true_eq] at this
  rcases this with (h | h) | h
  · omega
  · omega
  · exact h
set_option maxHeartbeats 1000000 in
theorem walk (a b c : Int) (W : World) (h0 : TabAt 0 Lib.deBruijn32tab W) (h1 : TabAt 1 Lib.deBruijn64tab W) (_ : (Lit.int .i64 a).wf = true) (_ : (Lit.int .i64 b).wf = true) (_ : (Lit.int .i64 c).wf = true) :
    Calls Tryd.prog 4 #[.int .i64 a, .int .i64 b, .int .i64 c] W fun e W' => e = .returned (.bool true) ∧ Below W.heap.size W W' := by
  have hT : Tabs W := ⟨h0, h1⟩
  obtain ⟨k, hk⟩ : ∃ n : Nat, a % 32 = (n : Int) := ⟨(a % 32).toNat, by omega⟩
  have rk := rw_some a 32 (by decide) (by decide)
  rw [hk] at rk
  have hkn : k < 32 := by omega
  obtain ⟨i, hi⟩ : ∃ n : Nat, b % (32 - (k : Int)) = (n : Int) := ⟨(b % (32 - (k : Int))).toNat, by have := Int.emod_nonneg b (b := 32 - (k : Int)) (by omega); omega⟩
  have ri := rw_some b (32 - (k : Int)) (by omega) (by omega)
  rw [hi] at ri
  have hil : (i : Int) < 32 - k := by rw [← hi]; exact Int.emod_lt_of_pos _ (by omega)
  obtain ⟨n, hn⟩ : ∃ n : Nat, c % (32 - (k : Int) - i) = (n : Int) := ⟨(c % (32 - (k : Int) - i)).toNat, by have := Int.emod_nonneg c (b := 32 - (k : Int) - i) (by omega); omega⟩
  have rn' := rw_some c (32 - (k : Int) - i) (by omega) (by omega)
  rw [hn] at rn'
  have hnl : (n : Int) < 32 - k - i := by rw [← hn]; exact Int.emod_lt_of_pos _ (by omega)
  have rr := spec_run i (1 + n) (by omega) (by omega)
  rw [show (((1 + n : Nat)) : Int) = 1 + (n : Int) from by omega] at rr
  have HC := Lib.hid (fun w hT => c16 i (1 + n) k w hT hkn (by omega) (by omega))
  have hc := cd_pos ((32 - k) % 32) (rn i (1 + n))
  have hm : ((rn i (1 + n) : Nat) : Int) < 4294967296 := by have := rn_lt32 i (1 + n) (by omega); omega
  have RK := Lib.hid rk
  have RI := Lib.hid ri
  have RN := Lib.hid rn'
  have RR := Lib.hid rr
  have HT := Lib.hid hT
  have hk' : (k : Int) < 32 := by omega
  have hcd : (((cd ((32 - k) % 32) (rn i (1 + n)) : Nat) : Int) == 0) = false := by apply beq_false_of_ne; omega
  clear rk ri rn' rr hT hk hi hn hc h0 h1 hkn
  generalize cd ((32 - k) % 32) (rn i (1 + n)) = e0 at *
  generalize rn i (1 + n) = m at *
  go_enter Tryd.func4, Tryd.ntmps4
  go_wp2_with fail
  refine (laws_rwAt.calls _ _ _ _ RK.out).mono ?_
  rintro e w' ⟨rfl, ⟨n1, rfl⟩⟩
  go_wp2_with fail
  refine (laws_rwAt.calls _ _ _ _ RI.out).mono ?_
  rintro e w' ⟨rfl, ⟨n2, rfl⟩⟩
  go_wp2_with fail
  refine (laws_rwAt.calls _ _ _ _ RN.out).mono ?_
  rintro e w' ⟨rfl, ⟨n3, rfl⟩⟩
  go_wp2_with (first
    | (go_at_call 15; refine (spec_Run.calls _ _ _ _ RR.out).mono ?_; rintro e w' ⟨rfl, ⟨n4, rfl⟩⟩)
    | (go_at_call 16; (with_reducible refine (HC.out _ ?hT).mono ?_); (case hT => exact HT.out); rintro e w' ⟨rfl, ⟨n5, rfl⟩⟩))
  go_ret
  exact ⟨by simp_all, by repeat (first | exact Below.refl _ _ | refine pw_below_drewN ?_ _)⟩
end Go.Proofs.YtmldgakbkachpaaDoor.Mf
