/- FnRotateMaskIs: masks of rlwinm are told to be the runs of ones among the low 32 bits that may go round, or all of these, for every int64; no condition. The reference's loop, and the walk of the law. -/
import Derived.Test.YtmldgakbkachpaaWord
namespace Go.Proofs.Ytmldgakbkachpaa.Word
open Go.RowKit Go.Proofs.YtmldgakbkachpaaW.PrintWords Go.Proofs.YtmldgakbkachpaaW.PrintLast Go.Proofs.Ytmldgakbkachpaa.Kit Go.Proofs.Ytmldgakbkachpaa.PFnRotateMaskIs
theorem shr_nat (x i : Nat) (h : i ≤ 64) : shr .u64 (x : Int) (i : Int) = ((x / 2 ^ i : Nat) : Int) := by
  unfold shr
  rw [Int.toNat_natCast, Nat.min_eq_left (show i ≤ IntKind.u64.bits from h)]
  simp
theorem bit_any (x i : Nat) (h : i ≤ 64) : spec_bit.f (x : Int) (i : Int) = some (((x / 2 ^ i) % 2 : Nat) : Int) := by
  unfold spec_bit.f
  rw [if_pos (by omega), shr_nat x i h, tmod_nn (Int.natCast_nonneg _)]
  simp
theorem low_32 (x : Nat) : spec_Low.f (x : Int) 32 = some ((x % 4294967296 : Nat) : Int) := by
  unfold spec_Low.f
  have e : shl .u64 1 32 = 4294967296 := by decide +kernel
  rw [e, if_neg (by decide), if_pos (by decide), if_neg (by decide), tmod_nn (Int.natCast_nonneg _)]
  simp
theorem st_mod (d : Nat) : ∀ p x, st p d (x % 2 ^ d) = st p d x := by
  induction d with
  | zero => intro p x; rfl
  | succ d ih =>
    intro p x
    have hp : 2 ^ (d + 1) = 2 * 2 ^ d := by rw [Nat.pow_succ]; omega
    have h1 : x % 2 ^ (d + 1) % 2 = x % 2 := by rw [hp, Nat.mod_mul_right_mod]
    have h2 : x % 2 ^ (d + 1) / 2 = x / 2 % 2 ^ d := by rw [hp, Nat.mod_mul_right_div_self]
    simp only [st, h1, h2, ih]
theorem turned_loop (x d : Nat) : ∀ (k i s : Nat) (p : Bool), i + d = 32 → d < k → s ≤ i → (p = decide ((x / 2 ^ ((i + 31) % 32)) % 2 = 1)) →
    spec_IsTurnedRun.l0 k (x : Int) (s : Int) (i : Int) = some (decide (s + st p d (x / 2 ^ i) = 1 ∨ x % 4294967296 = 4294967295)) := by
  induction d with
  | zero =>
    intro k i s p hi hk hs hp
    obtain ⟨k, rfl⟩ : ∃ m, k = m + 1 := ⟨k - 1, by omega⟩
    simp only [spec_IsTurnedRun.l0]
    have e : s + st p 0 (x / 2 ^ i) = s := rfl
    rw [if_neg (by omega), low_32]
    by_cases h1 : s = 1
    · rw [if_pos (by omega)]; exact some_yes (.inl (by rw [e]; exact h1))
    · rw [if_neg (by omega)]
      simp only [Option.bind_some]
      refine congrArg some ?_
      rw [Bool.eq_iff_iff, beq_iff_eq, decide_eq_true_eq, e]
      omega
  | succ d ih =>
    intro k i s p hi hk hs hp
    obtain ⟨k, rfl⟩ : ∃ m, k = m + 1 := ⟨k - 1, by omega⟩
    have hdiv : x / 2 ^ (i + 1) = x / 2 ^ i / 2 := by rw [Nat.pow_succ, Nat.div_div_eq_div_mul]
    have next : ∀ t, t ≤ i + 1 → spec_IsTurnedRun.l0 k (x : Int) (t : Int) ((i : Int) + 1) = some (decide (t + st (decide ((x / 2 ^ i) % 2 = 1)) d (x / 2 ^ i / 2) = 1 ∨ x % 4294967296 = 4294967295)) := by
      intro t ht
      have := ih k (i + 1) t (decide ((x / 2 ^ i) % 2 = 1)) (by omega) (by omega) ht (by rw [show (i + 1 + 31) % 32 = i from by omega])
      rw [hdiv] at this
      rw [← this]; rfl
    simp only [spec_IsTurnedRun.l0]
    have ep : Int.tmod (IntKind.u64.wrap ((i : Int) + 31)) 32 = (((i + 31) % 32 : Nat) : Int) := by
      rw [wu64 (by omega) (by omega), tmod_nn (by omega)]; omega
    rw [if_pos (by omega), bit_any x i (by omega), ep, bit_any x _ (by omega), wu64 (z := (i : Int) + 1) (by omega) (by omega), w64 (z := (s : Int) + 1) (by omega) (by omega)]
    simp only [Option.bind_some]
    have n1 := next (s + 1) (by omega)
    have n0 := next s (by omega)
    rw [show (((s + 1 : Nat)) : Int) = (s : Int) + 1 from rfl] at n1
    by_cases hb : (x / 2 ^ i) % 2 = 1
    · rw [if_pos (by omega)]
      by_cases hc : (x / 2 ^ ((i + 31) % 32)) % 2 = 1
      · rw [if_neg (by omega), n0, hp]
        simp only [st, hb, hc]
        simp
      · rw [if_pos (by omega), n1, hp]
        simp only [st, hb, hc]
        refine congrArg some ?_
        rw [decide_eq_decide]
        simp
        omega
    · rw [if_neg (by omega), n0]
      simp only [st, hb]
      simp
theorem turned_any (u : Nat) : spec_IsTurnedRun.f 40 (u : Int) = some (decide (st ((u % 4294967296).testBit 31) 32 (u % 4294967296) = 1 ∨ u % 4294967296 = 4294967295)) := by
  unfold spec_IsTurnedRun.f
  have h := turned_loop u 32 40 0 0 _ (by omega) (by omega) (by omega) rfl
  rw [show ((0 : Nat) : Int) = 0 from rfl] at h
  rw [h, Nat.pow_zero, Nat.div_one, Nat.zero_add]
  have hm := st_mod 32 ((u % 4294967296).testBit 31) u
  rw [show (2 : Nat) ^ 32 = 4294967296 from by decide] at hm
  have hb : (u % 4294967296).testBit 31 = decide (u / 2 ^ ((0 + 31) % 32) % 2 = 1) := by
    rw [show (4294967296 : Nat) = 2 ^ 32 from by decide, Nat.testBit_mod_two_pow, show (0 + 31) % 32 = 31 from rfl]
    simp [Nat.testBit_eq_decide_div_mod_eq]
  rw [hm, ← hb]
set_option maxRecDepth 100000 in
theorem walk (a : Int) (W : World) (_ : (Lit.int .i64 a).wf = true) : Calls Try.prog 5 #[.int .i64 a] W fun e W' => e = .returned (.bool true) ∧ Below W.heap.size W W' := by
  obtain ⟨x, hx⟩ : ∃ x : Nat, a % 4294967296 = (x : Int) := ⟨(a % 4294967296).toNat, by omega⟩
  obtain ⟨u, hu⟩ : ∃ u : Nat, IntKind.u64.wrap a = (u : Int) := ⟨(IntKind.u64.wrap a).toNat, by rw [wu64m]; omega⟩
  have hxu : x = u % 4294967296 := by rw [wu64m] at hu; omega
  have e1 : wr a = decide (st (x.testBit 31) 32 x = 1 ∨ x = 4294967295) := wr_any a x hx
  have e2 : spec_IsTurnedRun.f 40 (IntKind.u64.wrap a) = some (wr a) := by rw [hu, turned_any u, e1, hxu]
  have e6 : wr 6 = true := by rw [wr_any 6 6 (by decide)]; decide +kernel
  have H2 := Lib.hid e2
  have H6 := Lib.hid e6
  clear e1 e2 e6 hxu hu hx
  have c15 : ∀ w, Calls Try.prog 15 #[] w fun e w' => e = .returned (.bool true) ∧ w' = w := fun w => by
    go_enter Try.func15, Try.ntmps15
    go_wp2_with (go_at_call 13; refine (c13 _ _).mono ?_; rintro e w' ⟨rfl, rfl⟩; rw [H6.out])
    go_ret
    exact ⟨rfl, rfl⟩
  have H15 := Lib.hid c15
  clear c15
  generalize hb : wr a = b at *
  have HB := Lib.hid hb
  clear hb
  go_enter Try.func5, Try.ntmps5
  go_wp2_with (first
    | (go_at_call 13; refine (c13 _ _).mono ?_; rintro e w' ⟨rfl, rfl⟩; rw [HB.out])
    | (go_at_call 14; refine (spec_IsTurnedRun.calls 40 _ _ _ H2.out).mono ?_; rintro e w' ⟨rfl, ⟨nd, rfl⟩⟩)
    | (go_at_call 15; refine (H15.out _).mono ?_; rintro e w' ⟨rfl, rfl⟩))
  go_ret
  exact ⟨by simp, by repeat (first | exact Below.refl _ _ | exact pw_below_drewN (Below.refl _ _) _)⟩
end Go.Proofs.Ytmldgakbkachpaa.Word
