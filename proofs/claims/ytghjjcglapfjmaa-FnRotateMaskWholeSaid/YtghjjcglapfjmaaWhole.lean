/- FnRotateMaskWhole: a mask is told to be a run of ones that keeps the upper 32 bits clear exactly if it is, for every int64; no condition. The walks, and the law over numbers. -/
import Derived.Test.YtghjjcglapfjmaaPFnSequenceIsx1
import Derived.Test.YtghjjcglapfjmaaKit
import Derived.Lib.Hide
namespace Go.Proofs.Ytghjjcglapfjmaa.Whole
open Go.RowKit Go.Proofs.YtghjjcglapfjmaaW.PrintWords Go.Proofs.YtghjjcglapfjmaaW.PrintLast Go.Proofs.Ytghjjcglapfjmaa.Kit Go.Proofs.Ytghjjcglapfjmaa.PFnSequenceIs
def wh (a : Int) : Bool := (Go.bits .and .u32 (a % 4294967296) ((Go.bits .and .u32 (a % 4294967296) (-(a % 4294967296) % 4294967296) + a) % 4294967296) == 0) && (a % 4294967296 != 0) && (a % 4294967296 == IntKind.u64.wrap a)
theorem c12 (a : Int) (w : World) : Calls Try.prog 12 #[.int .i64 a] w fun e w' => e = .returned (.bool (wh a)) ∧ w' = w := by
  go_enter Try.func12, Try.ntmps12
  go_wp2
  all_goals (go_ret; exact ⟨by simp_all [wh], rfl⟩)
theorem c10 (a : Int) (w : World) : Calls Try.prog 10 #[.int .i64 a] w fun e w' => e = .returned (.bool (wh a)) ∧ w' = w := by
  go_enter Try.func10, Try.ntmps10
  go_wp2_with (go_at_call 12; refine (c12 _ _).mono ?_; rintro e w' ⟨rfl, rfl⟩)
  go_ret
  exact ⟨rfl, rfl⟩
theorem c7 (a : Int) (w : World) : Calls Try.prog 7 #[.int .i64 a] w fun e w' => e = .returned (.bool (wh a)) ∧ w' = w := by
  go_enter Try.func7, Try.ntmps7
  go_wp2_with (go_at_call 10; refine (c10 _ _).mono ?_; rintro e w' ⟨rfl, rfl⟩)
  go_ret
  exact ⟨rfl, rfl⟩
theorem half (x : Nat) (a : Int) (hx : x < 4294967296) (ha : (a - x) % 4294967296 = 0) :
    (Go.bits .and .u32 (x : Int) ((Go.bits .and .u32 (x : Int) (-(x : Int) % 4294967296) + a) % 4294967296) == 0) = decide (st false 32 x ≤ 1) := by
  have M : (2 : Nat) ^ 32 = 4294967296 := by decide
  have e1 : (-(x : Int)) % 4294967296 = (((4294967296 - x) % 4294967296 : Nat) : Int) := by omega
  have hl : low 32 x = x &&& ((4294967296 - x) % 4294967296) := by unfold low; rw [M]
  rw [e1, bits_and_u32n x _ hx (Nat.mod_lt _ (by decide)), ← hl]
  have t := run_test 32 x (by rw [M]; exact hx)
  rw [M] at t
  generalize low 32 x = l at *
  have e3 : ((l : Int) + a) % 4294967296 = (((l + x) % 4294967296 : Nat) : Int) := by omega
  rw [e3, bits_and_u32n x _ hx (Nat.mod_lt _ (by decide)), Bool.eq_iff_iff, decide_eq_true_eq, ← t, beq_iff_eq]
  omega
theorem pow64 {i : Nat} (h : i < 64) : 2 ^ i < 18446744073709551616 := by
  have : 2 ^ i < 2 ^ 64 := Nat.pow_lt_pow_right (by decide) h
  simpa using this
theorem shr_nat (x i : Nat) (h : i ≤ 64) : shr .u64 (x : Int) (i : Int) = ((x / 2 ^ i : Nat) : Int) := by
  unfold shr
  rw [Int.toNat_natCast, Nat.min_eq_left (show i ≤ IntKind.u64.bits from h)]
  simp
theorem bit_any (x i : Nat) (h : i ≤ 64) : spec_bit.f (x : Int) (i : Int) = some (((x / 2 ^ i) % 2 : Nat) : Int) := by
  unfold spec_bit.f
  rw [if_pos (by omega), shr_nat x i h, tmod_nn (Int.natCast_nonneg _)]
  simp
/-- the loop of IsRun from place i on, the bit below it being p. -/
theorem run_loop (x d : Nat) : ∀ (k i s : Nat) (p : Bool), i + d = 64 → d < k → s ≤ i → (p = if i = 0 then false else decide ((x / 2 ^ (i - 1)) % 2 = 1)) →
    spec_IsRun.l0 k (x : Int) (s : Int) (i : Int) = some (decide (s + st p d (x / 2 ^ i) = 1)) := by
  induction d with
  | zero =>
    intro k i s p hi hk hs hp
    obtain ⟨k, rfl⟩ : ∃ m, k = m + 1 := ⟨k - 1, by omega⟩
    simp only [spec_IsRun.l0]
    rw [if_neg (by omega)]
    refine congrArg some ?_
    have e : s + st p 0 (x / 2 ^ i) = s := rfl
    rw [Bool.eq_iff_iff, beq_iff_eq, decide_eq_true_eq, e]
    omega
  | succ d ih =>
    intro k i s p hi hk hs hp
    obtain ⟨k, rfl⟩ : ∃ m, k = m + 1 := ⟨k - 1, by omega⟩
    have hdiv : x / 2 ^ (i + 1) = x / 2 ^ i / 2 := by rw [Nat.pow_succ, Nat.div_div_eq_div_mul]
    have next : ∀ t, t ≤ i + 1 → spec_IsRun.l0 k (x : Int) (t : Int) ((i : Int) + 1) = some (decide (t + st (decide ((x / 2 ^ i) % 2 = 1)) d (x / 2 ^ i / 2) = 1)) := by
      intro t ht
      have := ih k (i + 1) t (decide ((x / 2 ^ i) % 2 = 1)) (by omega) (by omega) ht (by rw [if_neg (by omega)]; rfl)
      rw [hdiv] at this
      rw [← this]; rfl
    simp only [spec_IsRun.l0]
    rw [if_pos (by omega), bit_any x i (by omega), wu64 (z := (i : Int) + 1) (by omega) (by omega), w64 (z := (s : Int) + 1) (by omega) (by omega)]
    simp only [Option.bind_some]
    have n1 := next (s + 1) (by omega)
    have n0 := next s (by omega)
    rw [show (((s + 1 : Nat)) : Int) = (s : Int) + 1 from rfl] at n1
    by_cases hb : (x / 2 ^ i) % 2 = 1
    · rw [if_pos (by omega)]
      by_cases h0 : i = 0
      · rw [if_pos (by omega), n1, hp, if_pos h0]
        simp only [st, hb]
        refine congrArg some ?_
        rw [decide_eq_decide]
        simp
        omega
      · rw [if_neg (by omega)]
        have e1 : IntKind.u64.wrap ((i : Int) - 1) = ((i - 1 : Nat) : Int) := by rw [wu64 (by omega) (by omega)]; omega
        rw [e1, bit_any x (i - 1) (by omega)]
        simp only [Option.bind_some]
        rw [hp, if_neg h0]
        by_cases hc : (x / 2 ^ (i - 1)) % 2 = 1
        · rw [if_neg (by omega), n0]
          simp only [st, hb, hc]
          simp
        · rw [if_pos (by omega), n1]
          simp only [st, hb, hc]
          refine congrArg some ?_
          rw [decide_eq_decide]
          simp
          omega
    · rw [if_neg (by omega), n0]
      simp only [st, hb]
      simp
theorem isRun_any (x : Nat) : spec_IsRun.f 70 (x : Int) = some (decide (st false 64 x = 1)) := by
  unfold spec_IsRun.f
  have := run_loop x 64 70 0 0 false (by omega) (by omega) (by omega) rfl
  rw [show ((0 : Nat) : Int) = 0 from rfl] at this
  rw [this]
  simp
theorem st_wide (d w : Nat) : ∀ p x, x < 2 ^ w → st p (w + d) x = st p w x := by
  induction w with
  | zero =>
    intro p x hx
    have : x = 0 := by simpa using hx
    subst this
    have : ∀ d p, st p d 0 = 0 := by
      intro d
      induction d with
      | zero => intro p; rfl
      | succ d ih => intro p; simp [st, ih]
    rw [this, this]
  | succ w ih =>
    intro p x hx
    have hp : 2 ^ (w + 1) = 2 * 2 ^ w := by rw [Nat.pow_succ]; omega
    rw [show w + 1 + d = w + d + 1 from by omega]
    simp only [st]
    rw [ih _ (x / 2) (by omega)]
theorem wh_any (a : Int) (x u : Nat) (hx : a % 4294967296 = (x : Int)) (hu : IntKind.u64.wrap a = (u : Int)) : wh a = decide (st false 32 x = 1 ∧ x = u) := by
  have hxl : x < 4294967296 := by omega
  have z := st_nonzero 32 x (by simpa using hxl)
  unfold wh
  rw [hx, hu, half x a hxl (by omega), Bool.eq_iff_iff]
  generalize st false 32 x = n at *
  simp only [Bool.and_eq_true, decide_eq_true_eq, bne_iff_ne, ne_eq, beq_iff_eq]
  omega
/-- what the law compares. -/
theorem wh_run (a : Int) (u : Nat) (hu : IntKind.u64.wrap a = (u : Int)) : wh a = (decide (u < 4294967296) && decide (st false 64 u = 1)) := by
  obtain ⟨x, hx⟩ : ∃ x : Nat, a % 4294967296 = (x : Int) := ⟨(a % 4294967296).toNat, by omega⟩
  have hxu : x = u % 4294967296 := by rw [wu64m] at hu; omega
  rw [wh_any a x u hx hu, Bool.eq_iff_iff]
  simp only [Bool.and_eq_true, decide_eq_true_eq]
  by_cases h : u < 4294967296
  · have w := st_wide 32 32 false u (by simpa using h)
    have hxu' : x = u := by omega
    subst hxu'
    rw [show 32 + 32 = 64 from rfl] at w
    rw [w]
    omega
  · omega
set_option maxRecDepth 100000 in
theorem walk (a : Int) (W : World) (_ : (Lit.int .i64 a).wf = true) : Calls Try.prog 4 #[.int .i64 a] W fun e W' => e = .returned (.bool true) ∧ Below W.heap.size W W' := by
  obtain ⟨u, hu⟩ : ∃ u : Nat, IntKind.u64.wrap a = (u : Int) := ⟨(IntKind.u64.wrap a).toNat, by rw [wu64m]; omega⟩
  have e1 := wh_run a u hu
  have e6 : wh 6 = true := by rw [wh_run 6 6 (by decide)]; decide +kernel
  have e2 : spec_IsRun.f 70 (IntKind.u64.wrap a) = some (decide (st false 64 u = 1)) := by rw [hu, isRun_any u]
  have H2 := Lib.hid e2
  have H6 := Lib.hid e6
  have hlt : decide (IntKind.u64.wrap a < 4294967296) = decide (u < 4294967296) := by rw [hu, decide_eq_decide]; omega
  clear e2 e6
  generalize decide (st false 64 u = 1) = b at *
  by_cases h : u < 4294967296
  · have hd : decide (IntKind.u64.wrap a < 4294967296) = true := by rw [hlt]; exact decide_eq_true h
    have e3 : wh a = b := by rw [e1, decide_eq_true h]; rfl
    have H3 := Lib.hid e3
    clear e1 e3 hlt hu h
    go_enter Try.func4, Try.ntmps4
    go_wp2_with (first
      | (go_at_call_of 7 (Value.int .i64 6); refine (c7 _ _).mono ?_; rintro e w' ⟨rfl, rfl⟩; rw [H6.out])
      | (go_at_call 7; refine (c7 _ _).mono ?_; rintro e w' ⟨rfl, rfl⟩; rw [H3.out])
      | (go_at_call 6; refine (spec_IsRun.calls 70 _ _ _ H2.out).mono ?_; rintro e w' ⟨rfl, ⟨nd, rfl⟩⟩))
    go_ret
    exact ⟨by simp, by repeat (first | exact Below.refl _ _ | exact pw_below_drewN (Below.refl _ _) _)⟩
  · have hd : decide (IntKind.u64.wrap a < 4294967296) = false := by rw [hlt]; exact decide_eq_false h
    have e3 : wh a = false := by rw [e1, decide_eq_false h]; rfl
    have H3 := Lib.hid e3
    clear e1 e3 hlt hu h
    go_enter Try.func4, Try.ntmps4
    go_wp2_with (first
      | (go_at_call_of 7 (Value.int .i64 6); refine (c7 _ _).mono ?_; rintro e w' ⟨rfl, rfl⟩; rw [H6.out])
      | (go_at_call 7; refine (c7 _ _).mono ?_; rintro e w' ⟨rfl, rfl⟩; rw [H3.out])
      | (go_at_call 6; refine (spec_IsRun.calls 70 _ _ _ H2.out).mono ?_; rintro e w' ⟨rfl, ⟨nd, rfl⟩⟩))
    go_ret
    exact ⟨by simp, by repeat (first | exact Below.refl _ _ | exact pw_below_drewN (Below.refl _ _) _)⟩
end Go.Proofs.Ytghjjcglapfjmaa.Whole
