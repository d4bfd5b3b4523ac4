/- FnLeadingZeros: the numbers of zeros at the high end of numbers of 64, 32, 16 and 8 bits; no condition. The reference's loop, and the walk of the law. -/
import Derived.Test.YtfnhbjpflpbebaaLz
import Derived.LoopTactic
import Derived.Deep.RegionWith
namespace Go.Proofs.Ytfnhbjpflpbebaa.Lz
open Go.RowKit Go.Proofs.Ytfnhbjpflpbebaa.Kit
/-- a bit of a word. -/
def bv (x : Nat) (i : Int) : Int := ((x / 2 ^ i.toNat % 2 : Nat) : Int)
theorem c45 (x : Nat) (i : Int) (w : World) (h0 : 0 ≤ i) (h1 : i ≤ 64) : Calls Try.prog 45 #[.int .u64 (x : Int), .int .u64 i] w fun e w' => e = .returned (.int .u64 (bv x i)) ∧ w' = w := by
  have hq : (0 : Int) ≤ (x : Int) / 2 ^ i.toNat := by
    have : (x : Int) / 2 ^ i.toNat = ((x / 2 ^ i.toNat : Nat) : Int) := by simp
    rw [this]; exact Int.natCast_nonneg _
  have hv : ((x : Int) / 2 ^ i.toNat) % 2 = bv x i := by unfold bv; simp
  have HV := Lib.hid hv
  clear hv
  go_enter Try.func45, Try.ntmps45
  go_wp2
  go_ret
  exact ⟨by rw [← HV.out]; rfl, rfl⟩
/-- the zeros at the high end of the low b bits. -/
def ld : Nat → Nat → Nat
  | 0, _ => 0
  | b + 1, x => if x / 2 ^ b % 2 = 0 then 1 + ld b x else 0
theorem ld_step (b x : Nat) (k : Nat) (h : k < b) : ld (b - k) x = if x / 2 ^ (b - 1 - k) % 2 = 0 then 1 + ld (b - (k + 1)) x else 0 := by
  obtain ⟨d, hd⟩ : ∃ d, b - k = d + 1 := ⟨b - k - 1, by omega⟩
  rw [hd, show b - 1 - k = d from by omega, show b - (k + 1) = d from by omega]; rfl
set_option maxHeartbeats 400000 in
theorem c26 (x b : Nat) (w : World) (hb : b ≤ 64) : Calls Try.prog 26 #[.int .u64 (x : Int), .int .u64 (b : Int)] w fun e w' => e = .returned (.int .i64 (ld b x : Int)) ∧ w' = w := by
  have hb' : (b : Int) ≤ 64 := by omega
  go_enter Try.func26, Try.ntmps26
  go_wp2
  go_loop [5] (fun i => ∃ k : Nat, k ≤ b ∧ k + ld (b - k) x = ld b x ∧ i = .int .i64 k) (fun i => b - (intOf i).toNat)
  case atStart => exact ⟨0, by omega, by simp, rfl⟩
  case round =>
    obtain ⟨k, hk, hl, rfl⟩ := hrel
    by_cases hlt : k < b
    · have hst := ld_step b x k hlt
      have hi0 : (0 : Int) ≤ (b : Int) - 1 - (k : Int) := by omega
      have hi1 : (b : Int) - 1 - (k : Int) ≤ 64 := by omega
      have hin : ((b : Int) - 1 - (k : Int)).toNat = b - 1 - k := by omega
      by_cases hz : x / 2 ^ (b - 1 - k) % 2 = 0
      · have hq : (bv x ((b : Int) - 1 - (k : Int)) == 0) = true := by unfold bv; rw [hin, hz]; rfl
        rw [if_pos hz] at hst
        have HL : Hid ((k + 1) + ld (b - (k + 1)) x = ld b x) := Lib.hid (by omega)
        clear hst hl hin hz
        go_wp2_with (go_at_call 45; refine (c45 _ _ _ hi0 hi1).mono ?_; rintro e w' ⟨rfl, rfl⟩)
        go_round
        case rel => exact ⟨k + 1, by omega, HL.out, by go_num⟩
        case measure => simp [intOf]; omega
      · have hq : (bv x ((b : Int) - 1 - (k : Int)) == 0) = false := by
          unfold bv; rw [hin, beq_eq_false_iff_ne]; omega
        rw [if_neg hz] at hst
        have HL : Hid (k = ld b x) := Lib.hid (by omega)
        clear hst hl hin hz
        go_wp2_with (go_at_call 45; refine (c45 _ _ _ hi0 hi1).mono ?_; rintro e w' ⟨rfl, rfl⟩)
        go_ret
        exact ⟨by rw [← HL.out]; rfl, rfl⟩
    · have hkb : k = b := by omega
      have HL : Hid (k = ld b x) := Lib.hid (by rw [hkb, Nat.sub_self] at hl; rw [hkb]; simpa [ld] using hl)
      have hd : decide ((k : Int) < (b : Int)) = false := by simp; omega
      clear hl hkb
      go_wp2
      go_ret
      exact ⟨by rw [← HL.out]; rfl, rfl⟩

theorem aux_eq (f : Nat) : ∀ b x, b < f → 2 ^ b ≤ x → x < 2 ^ (b + 1) → Lib.bitLenAux f x = b + 1 := by
  induction f with
  | zero => intro b x h; omega
  | succ f ih =>
    intro b x h h1 h2
    have hp := Nat.two_pow_pos b
    unfold Lib.bitLenAux
    rw [if_neg (by omega)]
    cases b with
    | zero =>
      have : x / 2 = 0 := by simp at h2; omega
      rw [this]
      cases f <;> rfl
    | succ b =>
      have e1 : 2 ^ (b + 1) = 2 * 2 ^ b := by rw [Nat.pow_succ]; omega
      have e2 : 2 ^ (b + 1 + 1) = 2 * 2 ^ (b + 1) := by rw [Nat.pow_succ]; omega
      rw [ih b (x / 2) (by omega) (by omega) (by omega)]; omega
theorem ld_len (b : Nat) : ∀ x, b ≤ 64 → x < 2 ^ b → ld b x + Lib.bitLen x = b := by
  induction b with
  | zero => intro x _ h; have : x = 0 := by simpa using h
            subst this; rfl
  | succ b ih =>
    intro x hb h
    have e1 : 2 ^ (b + 1) = 2 * 2 ^ b := by rw [Nat.pow_succ]; omega
    have hp := Nat.two_pow_pos b
    unfold ld
    by_cases hx : x < 2 ^ b
    · have hd : x / 2 ^ b = 0 := Nat.div_eq_of_lt hx
      rw [hd, if_pos rfl]
      have := ih x (by omega) hx
      omega
    · have hd : x / 2 ^ b = 1 := by
        apply Nat.div_eq_of_lt_le <;> omega
      rw [hd, if_neg (by decide)]
      have : Lib.bitLen x = b + 1 := aux_eq 64 b x (by omega) (by omega) h
      omega
theorem ld_mod (b : Nat) : ∀ x m, b ≤ m → ld b (x % 2 ^ m) = ld b x := by
  induction b with
  | zero => intro x m _; rfl
  | succ b ih =>
    intro x m h
    unfold ld
    have e : x % 2 ^ m / 2 ^ b % 2 = x / 2 ^ b % 2 := by
      have hm : 2 ^ m = 2 ^ b * (2 ^ (m - b)) := by rw [← Nat.pow_add]; congr 1; omega
      rw [hm, Nat.mod_mul_right_div_self]
      exact Nat.mod_mod_of_dvd _ ⟨2 ^ (m - b - 1), by rw [show m - b = (m - b - 1) + 1 from by omega, Nat.pow_succ, Nat.mul_comm]; rfl⟩
    rw [e, ih x m (by omega)]
theorem lz_any (b : Nat) (u : Nat) (c : Int) (hb : b ≤ 64) (hc : c = ((u % 2 ^ b : Nat) : Int)) : ((b : Int) - (Lib.bitLen c.toNat : Int)) = (ld b u : Int) := by
  rw [hc, Int.toNat_natCast]
  have h := ld_len b (u % 2 ^ b) hb (Nat.mod_lt _ (Nat.two_pow_pos b))
  rw [ld_mod b u b (Nat.le_refl b)] at h
  omega
theorem lead_walk (a : Int) (W : World) (_ : (Lit.int .i64 a).wf = true) : Calls Try.prog 7 #[.int .i64 a] W fun e W' => e = .returned (.bool true) ∧ Below W.heap.size W W' := by
  obtain ⟨u, hu⟩ : ∃ u : Nat, IntKind.u64.wrap a = (u : Int) := ⟨(IntKind.u64.wrap a).toNat, by rw [wu64m]; omega⟩
  have hum : (u : Int) = a % 18446744073709551616 := by rw [← hu, wu64m]
  have e64 : lz64 a = (ld 64 u : Int) := lz_any 64 u _ (by decide) (by rw [hu, Nat.mod_eq_of_lt (by omega)])
  have e32 : lz32 (wrap32 a) = (ld 32 u : Int) := lz_any 32 u _ (by decide) (by unfold wrap32; omega)
  have w16 : ∀ z : Int, IntKind.u16.wrap z = z % 65536 := by intro z; simp [IntKind.wrap, IntKind.bits, IntKind.signed]
  have v16 : IntKind.i16.wrap a = (a + 32768) % 65536 - 32768 := by simp [IntKind.wrap, IntKind.bits, IntKind.signed]; split <;> omega
  have v8 : IntKind.i8.wrap a = (a + 128) % 256 - 128 := by simp [IntKind.wrap, IntKind.bits, IntKind.signed]; split <;> omega
  have e16 : lz16 (IntKind.i16.wrap a) = (ld 16 u : Int) := lz_any 16 u _ (by decide) (by rw [w16, v16]; omega)
  have e8 : lz8 (IntKind.i8.wrap a) = (ld 8 u : Int) := lz_any 8 u _ (by decide) (by rw [v8]; omega)
  have e1 : lz64 1 = 63 := by decide +kernel
  have E64 := Lib.hid e64
  have E32 := Lib.hid e32
  have E16 := Lib.hid e16
  have E8 := Lib.hid e8
  have E1 := Lib.hid e1
  have HU := Lib.hid hu
  clear e64 e32 e16 e8 e1 hum w16 v16 v8 hu
  have HC : Hid (∀ b : Nat, b ≤ 64 → ∀ w, Calls Try.prog 26 #[.int .u64 (IntKind.u64.wrap a), .int .u64 (b : Int)] w fun e w' => e = .returned (.int .i64 (ld b u : Int)) ∧ w' = w) := Lib.hid (fun b hb w => by rw [HU.out]; exact c26 u b w hb)
  go_enter Try.func7, Try.ntmps7
  go_wp2_with (first
    | (go_at_call_of 25 (Value.int .i64 1); refine (c25 _ _).mono ?_; rintro e w' ⟨rfl, rfl⟩; rw [E1.out])
    | (go_at_call 25; refine (c25 _ _).mono ?_; rintro e w' ⟨rfl, rfl⟩; rw [E64.out])
    | (go_at_call 27; refine (c27 _ _).mono ?_; rintro e w' ⟨rfl, rfl⟩; rw [E32.out])
    | (go_at_call 28; refine (c28 _ _).mono ?_; rintro e w' ⟨rfl, rfl⟩; rw [E16.out])
    | (go_at_call 29; refine (c29 _ _).mono ?_; rintro e w' ⟨rfl, rfl⟩; rw [E8.out])
    | (go_at_call_of 26 (Value.int .u64 64); refine (HC.out 64 (by decide) _).mono ?_; rintro e w' ⟨rfl, rfl⟩)
    | (go_at_call_of 26 (Value.int .u64 32); refine (HC.out 32 (by decide) _).mono ?_; rintro e w' ⟨rfl, rfl⟩)
    | (go_at_call_of 26 (Value.int .u64 16); refine (HC.out 16 (by decide) _).mono ?_; rintro e w' ⟨rfl, rfl⟩)
    | (go_at_call_of 26 (Value.int .u64 8); refine (HC.out 8 (by decide) _).mono ?_; rintro e w' ⟨rfl, rfl⟩))
  go_ret
  exact ⟨by simp, Below.refl _ _⟩
end Go.Proofs.Ytfnhbjpflpbebaa.Lz
