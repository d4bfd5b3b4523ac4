/- What the laws of merged operations call: a mask that is one becomes a value, which is told to be good. The walks. -/
import Derived.Test.YtmldgakbkachpaaDoorGd
namespace Go.Proofs.YtmldgakbkachpaaDoor.Lw
open Go.RowKit Go.Proofs.YtmldgakbkachpaaDoorW.PrintWords Go.Proofs.YtmldgakbkachpaaDoorW.PrintLast Go.Proofs.YtmldgakbkachpaaDoorW.PrintMore Go.Proofs.YtmldgakbkachpaaDoor.Kit Go.Proofs.YtmldgakbkachpaaDoor.Sp Go.Proofs.YtmldgakbkachpaaDoor.Wd Go.Proofs.YtmldgakbkachpaaDoor.En Go.Proofs.YtmldgakbkachpaaDoor.De Go.Proofs.YtmldgakbkachpaaDoor.Gd
theorem at_args {P : Program} {k : Nat} {a b : Array Value} {w : World} {Q : Ending → World → Prop} (h : Calls P k b w Q) (e : a = b) : Calls P k a w Q := e ▸ h
/-- the value of a rotate and a mask of 32 bits. -/
def cd (r m : Nat) : Nat := encN (ends 32 m).2 (ends 32 m).1 r 32
theorem cd_pos (r m : Nat) : 0 < cd r m := by unfold cd encN; omega
theorem ok_lt (m : Nat) (h : ok m = true) : m < 4294967296 := by
  have := (ok_is m h).2.2
  rw [← this]; exact dmask_lt _ _
theorem enc_of (r m : Nat) (hr : r < 32) (hm : 0 < m) (hm' : m < 4294967296) (w : World) (hT : Tabs w) :
    Calls Tryd.prog 47 #[.int .i64 r, .int .i64 m, .int .i64 32] w fun e w' => e = .returned (.int .i64 (cd r m : Nat)) ∧ w' = w := by
  have h := e47 (r : Int) m w hT (by omega) (by omega) hm hm'
  have e : enc ((ends 32 m).2 : Int) ((ends 32 m).1 : Int) (r : Int) 32 = (cd r m : Nat) := enc_nat _ _ _ 32
  rw [e] at h
  exact h
theorem good_of (r m x want : Nat) (hr : r < 32) (hok : ok m = true) (h : rot 32 (x % 4294967296) r &&& m = if st false 64 m = 1 then want else want % 4294967296) (w : World) :
    Calls Tryd.prog 14 #[.int .i64 (cd r m : Nat), .int .u64 (x : Nat), .int .u64 (want : Nat)] w fun e w' => e = .returned (.bool true) ∧ Below w.heap.size w w' := by
  obtain ⟨h1, h2, h3⟩ := ok_is m hok
  exact g14 _ _ r x want h1 h2 hr (by rw [h3]; exact h) w
theorem rn_run (i n : Nat) (hn : 1 ≤ n) (hi : i + n ≤ 64) : st false 64 (rn i n) = 1 := st_run i n 64 hn hi
theorem rn_pos (i n : Nat) (hn : 1 ≤ n) : 0 < rn i n := by
  unfold rn
  have h1 := Nat.two_pow_pos i
  have h2 : 2 ≤ 2 ^ n := by
    calc 2 = 2 ^ 1 := by decide
      _ ≤ 2 ^ n := Nat.pow_le_pow_right (by decide) hn
  exact Nat.mul_pos h1 (by omega)
theorem rn_lt32 (i n : Nat) (h : i + n ≤ 32) : rn i n < 4294967296 := by have := rn_lt i n 32 h; simpa using this
theorem good_run (r i n x want : Nat) (hr : r < 32) (hn : 1 ≤ n) (hi : i + n ≤ 32) (h : rot 32 (x % 4294967296) r &&& rn i n = want) (w : World) :
    Calls Tryd.prog 14 #[.int .i64 (cd r (rn i n) : Nat), .int .u64 (x : Nat), .int .u64 (want : Nat)] w fun e w' => e = .returned (.bool true) ∧ Below w.heap.size w w' :=
  good_of r (rn i n) x want hr (run_ok i n hn hi).1 (by rw [if_pos (rn_run i n hn (by omega))]; exact h) w
theorem rw_some (x : Int) (n : Int) (hn : 0 < n) (hb : n ≤ 1152921504606846976) : laws_rwAt.f x n = some (x % n) := by
  unfold laws_rwAt.f; rw [if_neg (by omega), rw_at x n hn hb]
theorem wfn {a : Int} (h : (Lit.int .u64 a).wf = true) : ∃ x : Nat, a = x ∧ x < 18446744073709551616 := by
  have := wfu64 h
  exact ⟨a.toNat, by omega, by omega⟩
end Go.Proofs.YtmldgakbkachpaaDoor.Lw
