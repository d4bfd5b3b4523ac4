/- FnBFMaskSound: where a mask is told to be one of a bitfield, what is left of it behind a shift is a run of ones from the lowest bit on, and has room at its place; for every input, over the table that the library lays; no other condition. The walks. -/
import Derived.Test.YtfnhbjpflpbebaaDoorTz
import Derived.Test.YtfnhbjpflpbebaaDoorPFnBFMaskSoundx1
namespace Go.Proofs.YtfnhbjpflpbebaaDoor.Bf
open Go.RowKit Go.Proofs.YtfnhbjpflpbebaaDoorW.PrintWords Go.Proofs.YtfnhbjpflpbebaaDoorW.PrintLast Go.Proofs.YtfnhbjpflpbebaaDoorW.PrintMore Go.Proofs.YtfnhbjpflpbebaaDoor.Kit Go.Proofs.YtfnhbjpflpbebaaDoor.Tz Go.Proofs.YtfnhbjpflpbebaaDoor.PFnBFMaskSound
def pw (a : Int) : Bool := decide (a > 0) && (Go.bits .and .i64 a (wrap64 (a - 1)) == 0)
theorem pw_some (a : Int) : ssarewrite_isPowerOfTwo_int64.f a = some (pw a) := by
  unfold ssarewrite_isPowerOfTwo_int64.f pw
  by_cases h : a > 0
  · rw [if_pos h, decide_eq_true h, Bool.true_and]
  · rw [if_neg h, decide_eq_false h, Bool.false_and]
theorem c22 (a : Int) (w : World) : Calls Tryd.prog 22 #[.int .i64 a] w fun e w' => e = .returned (.bool (pw a)) ∧ Drawn0 w w' :=
  ssarewrite_isPowerOfTwo_int64.calls a _ w (pw_some a)
def sm (m : Int) (s : Nat) : Int := wrap64 (IntKind.u64.wrap m / 2 ^ s)
def bf (l m : Int) (s : Nat) : Bool := !decide (sm m s = 0) && (pw (wrap64 (sm m s + 1)) && decide (wrap64 (nto (sm m s) + l) < 64))
theorem bf_t (l m : Int) (s : Nat) (h : ¬ wrap64 (IntKind.u64.wrap m / 2 ^ s) = 0) (hp : pw (wrap64 (wrap64 (IntKind.u64.wrap m / 2 ^ s) + 1)) = true) :
    bf l m s = (wrap64 (IntKind.u64.wrap m / 2 ^ s) != 0 && decide (wrap64 (↑(nto (wrap64 (IntKind.u64.wrap m / 2 ^ s))) + l) < 64)) := by
  unfold bf sm
  rw [hp, decide_eq_false h, bne_iff_ne.2 h]
  rfl
theorem c19 (l m : Int) (s : Nat) (w : World) (hT : TabAt 0 Lib.deBruijn64tab w) (hs : (s : Int) < 64) :
    Calls Tryd.prog 19 #[.int .i64 l, .int .i64 m, .int .i64 s] w fun e w' => e = .returned (.bool (bf l m s)) ∧ Drawn0 w w' := by
  have HT := Lib.hid hT
  clear hT
  go_enter Tryd.func19, Tryd.ntmps19
  go_wp2_with (first
    | (go_at_call 22; refine (c22 _ _).mono ?_; rintro e w' ⟨rfl, ⟨n1, rfl⟩⟩)
    | (go_at_call 18; refine (c18 _ _ ?hT).mono ?_; (case hT => exact HT.out); rintro e w' ⟨rfl, rfl⟩))
  all_goals (go_ret; exact ⟨by first | (simp_all [bf, sm]; done) | (rw [bf_t l m s (by assumption) (by assumption)]; rfl), by first | exact ⟨0, rfl⟩ | exact ⟨_, rfl⟩⟩)
theorem c15 (l m : Int) (s : Nat) (w : World) (hT : TabAt 0 Lib.deBruijn64tab w) (hs : (s : Int) < 64) :
    Calls Tryd.prog 15 #[.int .i64 l, .int .i64 m, .int .i64 s] w fun e w' => e = .returned (.bool (bf l m s)) ∧ Drawn0 w w' := by
  have HT := Lib.hid hT
  clear hT
  go_enter Tryd.func15, Tryd.ntmps15
  go_wp2_with (go_at_call 19; refine (c19 _ _ _ _ ?hT hs).mono ?_; (case hT => exact HT.out); rintro e w' ⟨rfl, ⟨n1, rfl⟩⟩)
  go_ret
  exact ⟨rfl, ⟨_, rfl⟩⟩
theorem c9 (l m : Int) (s : Nat) (w : World) (hT : TabAt 0 Lib.deBruijn64tab w) (hs : (s : Int) < 64) :
    Calls Tryd.prog 9 #[.int .i64 l, .int .i64 m, .int .i64 s] w fun e w' => e = .returned (.bool (bf l m s)) ∧ Drawn0 w w' := by
  have HT := Lib.hid hT
  clear hT
  go_enter Tryd.func9, Tryd.ntmps9
  go_wp2_with (go_at_call 15; refine (c15 _ _ _ _ ?hT hs).mono ?_; (case hT => exact HT.out); rintro e w' ⟨rfl, ⟨n1, rfl⟩⟩)
  go_ret
  exact ⟨rfl, ⟨_, rfl⟩⟩
theorem c9w (w : World) (hT : TabAt 0 Lib.deBruijn64tab w) :
    Calls Tryd.prog 9 #[.int .i64 0, .int .i64 7, .int .i64 0] w fun e w' => e = .returned (.bool true) ∧ Drawn0 w w' := by
  have h := c9 0 7 0 w hT (by decide)
  rw [show bf 0 7 0 = true by decide +kernel] at h
  exact h
theorem shr_nat (x i : Nat) (h : i ≤ 64) : shr .u64 (x : Int) (i : Int) = ((x / 2 ^ i : Nat) : Int) := by
  unfold shr
  rw [Int.toNat_natCast, Nat.min_eq_left (show i ≤ IntKind.u64.bits from h)]
  simp
theorem bit_any (x i : Nat) (h : i ≤ 64) : spec_bit.f (x : Int) (i : Int) = some (((x / 2 ^ i) % 2 : Nat) : Int) := by
  unfold spec_bit.f
  rw [if_pos (by omega), shr_nat x i h, tmod_nn (Int.natCast_nonneg _)]
  simp
theorem loop (x d : Nat) : ∀ (k i : Nat), i + d = 64 → d < k → spec_Trailing.l0 k (x : Int) 64 (i : Int) = some ((i + Lib.ctzFrom d (x / 2 ^ i) : Nat) : Int) := by
  induction d with
  | zero =>
    intro k i hi hk
    obtain ⟨k, rfl⟩ : ∃ m, k = m + 1 := ⟨k - 1, by omega⟩
    simp only [spec_Trailing.l0]
    rw [wu64 (by omega) (by omega), if_neg (by omega)]
    simp [Lib.ctzFrom]
  | succ d ih =>
    intro k i hi hk
    obtain ⟨k, rfl⟩ : ∃ m, k = m + 1 := ⟨k - 1, by omega⟩
    simp only [spec_Trailing.l0]
    rw [wu64 (by omega) (by omega), if_pos (by omega), bit_any x i (by omega), Option.bind_some]
    have hdiv : x / 2 ^ (i + 1) = x / 2 ^ i / 2 := by rw [Nat.pow_succ, Nat.div_div_eq_div_mul]
    unfold Lib.ctzFrom
    by_cases hb : x / 2 ^ i % 2 = 1
    · rw [if_neg (by omega), if_pos hb]; rfl
    · rw [if_pos (by omega), if_neg hb, w64 (by omega) (by omega)]
      have := ih k (i + 1) (by omega) (by omega)
      rw [show ((i : Int) + 1) = ((i + 1 : Nat) : Int) from rfl, this, hdiv]
      refine congrArg some ?_
      omega
theorem ctz_from (y : Nat) : Lib.ctz 64 y = Lib.ctzFrom 64 y := by
  unfold Lib.ctz
  by_cases h : y = 0
  · rw [if_pos h, h]; decide +kernel
  · rw [if_neg h]
theorem trailing (y : Nat) : spec_Trailing.f 65 (y : Int) 64 = some ((Lib.ctz 64 y : Nat) : Int) := by
  unfold spec_Trailing.f
  rw [show (0 : Int) = ((0 : Nat) : Int) from rfl, loop y 64 65 0 (by omega) (by omega), ctz_from]
  simp
def okAt (j : Nat) : Bool := (nto ((2 ^ j - 1 : Nat) : Int) == j) && (spec_Run.f 0 (j : Int) == some ((2 ^ j - 1 : Nat) : Int))
theorem all_ok : (List.range 63).all okAt = true := by decide +kernel
theorem ok_any (j : Nat) (h : j < 63) : nto ((2 ^ j - 1 : Nat) : Int) = j ∧ spec_Run.f 0 (j : Int) = some ((2 ^ j - 1 : Nat) : Int) := by
  have := List.all_eq_true.1 all_ok j (by simpa using h)
  unfold okAt at this
  simp only [Bool.and_eq_true, beq_iff_eq] at this
  exact this
/-- what a mask that is told to be one leaves. -/
theorem sound (i s : Nat) (m : Int) (hi : i < 64) (h : bf i m s = true) : ∃ j : Nat, 0 < j ∧ (i : Int) + j ≤ 64 ∧ IntKind.u64.wrap m / 2 ^ s = ((2 ^ j - 1 : Nat) : Int) ∧ spec_Run.f 0 (j : Int) = some (IntKind.u64.wrap m / 2 ^ s) ∧ spec_Trailing.f 65 (ntu (IntKind.u64.wrap m / 2 ^ s)) 64 = some (j : Int) := by
  unfold bf at h
  simp only [Bool.and_eq_true, Bool.not_eq_true', decide_eq_false_iff_not, decide_eq_true_eq] at h
  obtain ⟨h0, h1, h2⟩ := h
  have hr0 : 0 ≤ IntKind.u64.wrap m / 2 ^ s := Int.ediv_nonneg (by rw [wu64m]; omega) (Int.le_of_lt (Int.pow_pos (by decide)))
  have hr1 : IntKind.u64.wrap m / 2 ^ s ≤ 18446744073709551615 := by
    have a : IntKind.u64.wrap m / 2 ^ s ≤ IntKind.u64.wrap m := Int.ediv_le_self _ (by rw [wu64m]; omega)
    have b : IntKind.u64.wrap m ≤ 18446744073709551615 := by rw [wu64m]; omega
    omega
  unfold sm at h0 h1 h2
  generalize IntKind.u64.wrap m / 2 ^ s = r at *
  unfold pw at h1
  simp only [Bool.and_eq_true, beq_iff_eq, decide_eq_true_eq] at h1
  obtain ⟨h3, h4⟩ := h1
  have hr2 : r < 9223372036854775807 := by unfold wrap64 at h0 h3; omega
  have e1 : wrap64 r = r := w64 (by omega) (by omega)
  rw [e1] at h0 h2 h3 h4
  have e2 : wrap64 (r + 1) = r + 1 := w64 (by omega) (by omega)
  rw [e2] at h3 h4
  obtain ⟨n, rfl⟩ : ∃ n : Nat, r = n := ⟨r.toNat, by omega⟩
  have e3 : wrap64 ((n : Int) + 1 - 1) = (n : Int) := by rw [Int.add_sub_cancel]; exact e1
  rw [e3] at h4
  have e4 : Go.bits .and .i64 ((n : Int) + 1) (n : Int) = (((n + 1) &&& n : Nat) : Int) := by
    rw [bits_i64]
    simp only []
    have a : BitVec.ofInt 64 ((n : Int) + 1) = BitVec.ofNat 64 (n + 1) := by rw [← BitVec.ofInt_natCast]; rfl
    rw [a, BitVec.ofInt_natCast, toInt_eq, BitVec.toNat_and, BitVec.toNat_ofNat, BitVec.toNat_ofNat, Nat.mod_eq_of_lt (by omega), Nat.mod_eq_of_lt (by omega)]
    have b : (n + 1) &&& n ≤ n := Nat.and_le_right
    rw [if_pos (by omega)]
  rw [e4] at h4
  have h5 := (pow_test 63 (n + 1) (by omega) (by omega)).1 (by rw [Nat.add_sub_cancel]; omega)
  obtain ⟨j, hj, hp⟩ := h5
  have hn : n = 2 ^ j - 1 := by omega
  obtain ⟨o1, o2⟩ := ok_any j hj
  have hj0 : 0 < j := by
    rcases Nat.eq_zero_or_pos j with e | e
    · subst e; simp at hn; omega
    · exact e
  rw [hn] at h2
  rw [o1, w64 (by omega) (by omega)] at h2
  refine ⟨j, hj0, by omega, by rw [hn], by rw [hn]; exact o2, ?_⟩
  rw [ntu_any]
  have e5 : 18446744073709551615 - (n : Int) % 18446744073709551616 = ((18446744073709551615 - n : Nat) : Int) := by omega
  rw [e5, trailing]
  have e6 := o1
  unfold nto at e6
  rw [← hn, e5, Int.toNat_natCast] at e6
  rw [e6]
set_option maxHeartbeats 1000000 in
theorem law (a m c : Int) (W : World) (hT : TabAt 0 Lib.deBruijn64tab W) (_ : (Lit.int .i64 a).wf = true) (_ : (Lit.int .i64 m).wf = true) (_ : (Lit.int .i64 c).wf = true) :
    Calls Tryd.prog 4 #[.int .i64 a, .int .i64 m, .int .i64 c] W fun e W' => e = .returned (.bool true) ∧ Below W.heap.size W W' := by
  have hun := unu
  have r : ∀ a, laws_rwAt.f a 64 = some (a % 64) := by
    intro a; unfold laws_rwAt.f; rw [if_neg (by decide), rw_at a _ (by decide) (by decide)]
  obtain ⟨i, hi⟩ : ∃ n : Nat, a % 64 = (n : Int) := ⟨(a % 64).toNat, by omega⟩
  obtain ⟨s, hs⟩ : ∃ n : Nat, c % 64 = (n : Int) := ⟨(c % 64).toNat, by omega⟩
  have ri := r a
  have rs := r c
  rw [hi] at ri
  rw [hs] at rs
  have hi' : (i : Int) < 64 := by omega
  have hs' : (s : Int) < 64 := by omega
  have RI := Lib.hid ri
  have RS := Lib.hid rs
  have HT := Lib.hid hT
  clear r ri rs hi hs hT
  cases hb : bf i m s with
  | false =>
    have HB := Lib.hid hb
    clear hb
    go_enter Tryd.func4, Tryd.ntmps4
    go_wp2_with fail
    refine (laws_rwAt.calls _ _ _ _ RI.out).mono ?_
    rintro e w' ⟨rfl, ⟨n1, rfl⟩⟩
    go_wp2_with fail
    refine (laws_rwAt.calls _ _ _ _ RS.out).mono ?_
    rintro e w' ⟨rfl, ⟨n2, rfl⟩⟩
    go_wp2_with (first
      | (go_at_call_of 9 (Value.int .i64 m); refine (c9 _ _ _ _ ?hT hs').mono ?_; (case hT => exact HT.out); rintro e w' ⟨rfl, ⟨n3, rfl⟩⟩; rw [HB.out])
      | (go_at_call 9; refine (c9w _ ?hT).mono ?_; (case hT => exact HT.out); rintro e w' ⟨rfl, ⟨n3, rfl⟩⟩))
    go_ret
    exact ⟨by simp, by repeat (first | exact Below.refl _ _ | refine pw_below_drewN ?_ _)⟩
  | true =>
    obtain ⟨j, hj, hij, hr, hrun, htr⟩ := sound i s m (by omega) hb
    have HB := Lib.hid hb
    have HR := Lib.hid hrun
    have HTR := Lib.hid htr
    have hj' : 0 < (j : Int) := by omega
    clear hb hrun htr hr hj
    go_enter Tryd.func4, Tryd.ntmps4
    go_wp2_with fail
    refine (laws_rwAt.calls _ _ _ _ RI.out).mono ?_
    rintro e w' ⟨rfl, ⟨n1, rfl⟩⟩
    go_wp2_with fail
    refine (laws_rwAt.calls _ _ _ _ RS.out).mono ?_
    rintro e w' ⟨rfl, ⟨n2, rfl⟩⟩
    go_wp2_with (first
      | (go_at_call_of 9 (Value.int .i64 m); refine (c9 _ _ _ _ ?hT hs').mono ?_; (case hT => exact HT.out); rintro e w' ⟨rfl, ⟨n3, rfl⟩⟩; rw [HB.out])
      | (go_at_call 7; refine (spec_Trailing.calls 65 _ _ _ _ HTR.out).mono ?_; rintro e w' ⟨rfl, ⟨n4, rfl⟩⟩)
      | (go_at_call 10; refine (spec_Run.calls _ _ _ _ HR.out).mono ?_; rintro e w' ⟨rfl, ⟨n5, rfl⟩⟩)
      | (go_at_call 9; refine (c9w _ ?hT).mono ?_; (case hT => exact HT.out); rintro e w' ⟨rfl, ⟨n6, rfl⟩⟩))
    go_ret
    exact ⟨by simp, by repeat (first | exact Below.refl _ _ | refine pw_below_drewN ?_ _)⟩
end Go.Proofs.YtfnhbjpflpbebaaDoor.Bf
