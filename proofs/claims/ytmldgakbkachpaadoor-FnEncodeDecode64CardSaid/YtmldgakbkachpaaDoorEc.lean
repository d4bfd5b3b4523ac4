/- FnEncodeDecode64: how far to turn, and a run of ones among 64 bits, but not of all, come back from their value, with the bounds of the mask, for every input, over the tables that the library lays; no other condition. The walks. -/
import Derived.Test.YtmldgakbkachpaaDoorMk
namespace Go.Proofs.YtmldgakbkachpaaDoor.Ec
open Go.RowKit Go.Proofs.YtmldgakbkachpaaDoorW.PrintWords Go.Proofs.YtmldgakbkachpaaDoorW.PrintLast Go.Proofs.YtmldgakbkachpaaDoorW.PrintMore Go.Proofs.YtmldgakbkachpaaDoor.Kit Go.Proofs.YtmldgakbkachpaaDoor.Sp Go.Proofs.YtmldgakbkachpaaDoor.Wd Go.Proofs.YtmldgakbkachpaaDoor.En Go.Proofs.YtmldgakbkachpaaDoor.De Go.Proofs.YtmldgakbkachpaaDoor.Gd Go.Proofs.YtmldgakbkachpaaDoor.Lw Go.Proofs.YtmldgakbkachpaaDoor.Mk
theorem c35 (r i n : Nat) (hr : r < 64) (hn : 1 ≤ n) (hn' : n < 64) (hi : i + n ≤ 64) (w : World) (hT : Tabs w) :
    Calls Tryd.prog 35 #[.int .i64 r, .int .i64 (wrap64 (rn i n : Nat)), .int .i64 64] w fun e w' => e = .returned (.int .i64 (encN (64 - i) (64 - (i + n)) r 64 : Nat)) ∧ w' = w := by
  have hl := rn_lt i n 64 hi
  have hlt : rn i n < 18446744073709551615 := by
    unfold rn at hl ⊢
    have h2 := Nat.two_pow_pos n
    have h3 := Nat.two_pow_pos i
    rcases Nat.lt_or_ge (2 ^ i * (2 ^ n - 1)) 18446744073709551615 with h | h
    · exact h
    · exfalso
      have he : 2 ^ i * (2 ^ n - 1) = 18446744073709551615 := by omega
      have b1 := Nat.testBit_two_pow_sub_one 64 0
      have b2 := Nat.testBit_two_pow_sub_one 64 63
      rw [show 2 ^ 64 - 1 = 18446744073709551615 by decide, ← he] at b1 b2
      have c1 := rn_bit i n 0
      have c2 := rn_bit i n 63
      unfold rn at c1 c2
      rw [c1] at b1
      rw [c2] at b2
      simp at b1 b2
      omega
  have hM : IntKind.u64.wrap (wrap64 (rn i n : Nat)) = (rn i n : Nat) := by rw [wu64_wrap64, wu64 (by omega) (by omega)]
  have h := g47 (r : Int) (wrap64 (rn i n : Nat)) (rn i n) w hT (by omega) (by omega) hM (rn_pos i n hn) hlt
  rw [(run64_ok i n hn hn' hi).1] at h
  have e : enc (((64 - (i + n), 64 - i) : Nat × Nat).2 : Int) (((64 - (i + n), 64 - i) : Nat × Nat).1 : Int) (r : Int) 64 = (encN (64 - i) (64 - (i + n)) r 64 : Nat) := enc_nat _ _ _ 64
  rw [e] at h
  have H := Lib.hid h
  clear h hM hlt hl hT hi hn hn' hr e
  go_enter Tryd.func35, Tryd.ntmps35
  go_wp2_with (go_at_call 47; refine H.out.mono ?_; rintro e w' ⟨rfl, rfl⟩)
  go_ret
  exact ⟨rfl, rfl⟩
theorem c18 (r i n : Nat) (hr : r < 64) (hn : 1 ≤ n) (hn' : n < 64) (hi : i + n ≤ 64) (w : World) (hT : Tabs w) :
    Calls Tryd.prog 18 #[.int .i64 r, .int .i64 (wrap64 (rn i n : Nat)), .int .i64 64] w fun e w' => e = .returned (.int .i64 (encN (64 - i) (64 - (i + n)) r 64 : Nat)) ∧ w' = w := by
  have H := Lib.hid (c35 r i n hr hn hn' hi w hT)
  clear hT hi hn hn' hr
  go_enter Tryd.func18, Tryd.ntmps18
  go_wp2_with (go_at_call 35; refine H.out.mono ?_; rintro e w' ⟨rfl, rfl⟩)
  go_ret
  exact ⟨rfl, rfl⟩
theorem dec64 (r i n : Nat) (hr : r < 64) (hn : 1 ≤ n) (hn' : n < 64) (hi : i + n ≤ 64) (w : World) :
    Calls Tryd.prog 17 #[.int .i64 (encN (64 - i) (64 - (i + n)) r 64 : Nat)] w fun e w' => e = .returned (.tuple #[.int .i64 r, .int .i64 (64 - (i + n) : Nat), .int .i64 (63 - i : Nat), .int .u64 (rn i n : Nat)]) ∧ w' = w := by
  obtain ⟨h1, h2, _, _, h5, h6⟩ := dec_enc 64 (64 - i) (64 - (i + n)) r (.inr rfl) (by omega) (by omega) hr
  have h := c17 (encN (64 - i) (64 - (i + n)) r 64 : Nat) w
  rw [h1, h2, h5, h6, (run64_ok i n hn hn' hi).2, show (64 - i + 64 - 1) % 64 = 63 - i by omega] at h
  exact h
set_option maxHeartbeats 1000000 in
theorem walk (a b c : Int) (W : World) (h0 : TabAt 0 Lib.deBruijn32tab W) (h1 : TabAt 1 Lib.deBruijn64tab W) (_ : (Lit.int .i64 a).wf = true) (_ : (Lit.int .i64 b).wf = true) (_ : (Lit.int .i64 c).wf = true) :
    Calls Tryd.prog 5 #[.int .i64 a, .int .i64 b, .int .i64 c] W fun e W' => e = .returned (.bool true) ∧ Below W.heap.size W W' := by
  have hT : Tabs W := ⟨h0, h1⟩
  obtain ⟨r, hr⟩ : ∃ n : Nat, a % 64 = (n : Int) := ⟨(a % 64).toNat, by omega⟩
  have rr := rw_some a 64 (by decide) (by decide)
  rw [hr] at rr
  obtain ⟨i, hi⟩ : ∃ n : Nat, b % 64 = (n : Int) := ⟨(b % 64).toNat, by omega⟩
  have ri := rw_some b 64 (by decide) (by decide)
  rw [hi] at ri
  have hil : (i : Int) < 64 := by omega
  have hrl : (r : Int) < 64 := by omega
  obtain ⟨n, hn⟩ : ∃ n : Nat, c % (min (64 - (i : Int)) 63) = (n : Int) := ⟨(c % (min (64 - (i : Int)) 63)).toNat, by have := Int.emod_nonneg c (b := min (64 - (i : Int)) 63) (by omega); omega⟩
  have rn' := rw_some c (min (64 - (i : Int)) 63) (by omega) (by omega)
  rw [hn] at rn'
  have hnl : (n : Int) < min (64 - (i : Int)) 63 := by rw [← hn]; exact Int.emod_lt_of_pos _ (by omega)
  have hn64 : (n : Int) < 64 := by omega
  have rr2 := spec_run64 i (1 + n) (by omega) (by omega) (by omega)
  rw [show (((1 + n : Nat)) : Int) = 1 + (n : Int) from by omega] at rr2
  have HC := Lib.hid (fun w hT => c18 r i (1 + n) (by omega) (by omega) (by omega) (by omega) w hT)
  have HD := Lib.hid (fun w => dec64 r i (1 + n) (by omega) (by omega) (by omega) (by omega) w)
  have hmk := mask64 (64 - (i + (1 + n))) (63 - i) (by omega) (by omega)
  rw [show 63 - (63 - i) = i by omega, show 63 - i - (64 - (i + (1 + n))) + 1 = 1 + n by omega] at hmk
  have RR := Lib.hid rr
  have RI := Lib.hid ri
  have RN := Lib.hid rn'
  have RR2 := Lib.hid rr2
  have HM := Lib.hid hmk
  have HT := Lib.hid hT
  have q1 : ((64 - (i + (1 + n)) : Nat) : Int) ≤ ((63 - i : Nat) : Int) := by omega
  have q2 : ((63 - i : Nat) : Int) < 64 := by omega
  clear rr ri rn' rr2 hmk hT hi hn hr h0 h1 hnl
  generalize encN (64 - i) (64 - (i + (1 + n))) r 64 = E at *
  generalize rn i (1 + n) = m at *
  generalize 64 - (i + (1 + n)) = mb at *
  generalize 63 - i = me at *
  go_enter Tryd.func5, Tryd.ntmps5
  go_wp2_with fail
  refine (laws_rwAt.calls _ _ _ _ RR.out).mono ?_
  rintro e w' ⟨rfl, ⟨n1, rfl⟩⟩
  go_wp2_with fail
  refine (laws_rwAt.calls _ _ _ _ RI.out).mono ?_
  rintro e w' ⟨rfl, ⟨n2, rfl⟩⟩
  go_wp2_with (first
    | (go_at_call 11; (with_reducible refine (laws_rwAt.calls _ _ _ _ RN.out).mono ?_); rintro e w' ⟨rfl, ⟨n3, rfl⟩⟩)
    | (go_at_call 15; (with_reducible refine (spec_Run.calls _ _ _ _ RR2.out).mono ?_); rintro e w' ⟨rfl, ⟨n4, rfl⟩⟩)
    | (go_at_call 18; (with_reducible refine (HC.out _ ?hT).mono ?_); (case hT => exact HT.out); rintro e w' ⟨rfl, rfl⟩)
    | (go_at_call 17; (with_reducible refine (HD.out _).mono ?_); rintro e w' ⟨rfl, rfl⟩)
    | (go_at_call 19; (with_reducible refine (spec_Mask.calls 70 _ _ _ _ _ HM.out).mono ?_); rintro e w' ⟨rfl, ⟨n5, rfl⟩⟩))
  go_ret
  exact ⟨by simp, by repeat (first | exact Below.refl _ _ | refine pw_below_drewN ?_ _)⟩
end Go.Proofs.YtmldgakbkachpaaDoor.Ec
