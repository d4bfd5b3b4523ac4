/- Plain lemmas on words, bits and runs of ones: no program in sight. -/
import Derived.Laws.Entries
import Derived.RowKit
import Derived.Laws.BitsLemmas
namespace Go.Proofs.Ytmfffeoodlmnbaa.Kit
open Go Go.RowKit


theorem toInt_eq (w : Nat) (b : BitVec w) : b.toInt = if 2 * b.toNat < 2 ^ w then (b.toNat : Int) else (b.toNat : Int) - (2 ^ w : Nat) := BitVec.toInt_eq_toNat_cond b

theorem wrap_u (k : IntKind) (h : k.signed = false) (z : Int) : k.wrap z = ((BitVec.ofInt k.bits z).toNat : Int) := by
  unfold IntKind.wrap
  have hp : (2 ^ k.bits : Int) > 0 := Int.pow_pos (by decide)
  have := Int.emod_nonneg z (b := (2 ^ k.bits : Int)) (by omega)
  rw [BitVec.toNat_ofInt]
  simp only [h, Bool.false_and]
  rw [if_neg (by simp)]
  have e : ((2 ^ k.bits : Nat) : Int) = (2 ^ k.bits : Int) := by simp
  rw [e]; omega

theorem wrap_s (k : IntKind) (h : k.signed = true) (z : Int) : k.wrap z = (BitVec.ofInt k.bits z).toInt := by
  have hb : 1 ≤ k.bits := by cases k <;> decide
  unfold IntKind.wrap
  have hp : (2 ^ k.bits : Int) > 0 := Int.pow_pos (by decide)
  have h0 := Int.emod_nonneg z (b := (2 ^ k.bits : Int)) (by omega)
  have e : ((2 ^ k.bits : Nat) : Int) = (2 ^ k.bits : Int) := by simp
  have e2 : (2 ^ k.bits : Int) = 2 * 2 ^ (k.bits - 1) := by
    conv => lhs; rw [show k.bits = (k.bits - 1) + 1 from by omega, Int.pow_succ]
    omega
  rw [toInt_eq, BitVec.toNat_ofInt]
  simp only [h, Bool.true_and, decide_eq_true_eq, e]
  have e3 : (((z % 2 ^ k.bits).toNat : Nat) : Int) = z % 2 ^ k.bits := Int.toNat_of_nonneg h0
  rw [e3]
  have e4 : (2 * (z % 2 ^ k.bits).toNat < 2 ^ k.bits) ↔ ¬ (z % 2 ^ k.bits ≥ 2 ^ (k.bits - 1)) := by
    rw [← Int.ofNat_lt]
    simp only [Int.natCast_mul, e3, e]
    rw [show ((2 : Nat) : Int) = 2 from rfl]
    omega
  by_cases hc : z % 2 ^ k.bits ≥ 2 ^ (k.bits - 1)
  · rw [if_pos hc, if_neg (by rw [e4]; exact fun h => h hc)]
  · rw [if_neg hc, if_pos (by rw [e4]; exact hc)]

theorem wrap_u64 (z : Int) : IntKind.u64.wrap z = ((BitVec.ofInt 64 z).toNat : Int) := wrap_u .u64 rfl z
theorem wrap_u32 (z : Int) : IntKind.u32.wrap z = ((BitVec.ofInt 32 z).toNat : Int) := wrap_u .u32 rfl z
theorem wrap_u16 (z : Int) : IntKind.u16.wrap z = ((BitVec.ofInt 16 z).toNat : Int) := wrap_u .u16 rfl z
theorem wrap_u8 (z : Int) : IntKind.u8.wrap z = ((BitVec.ofInt 8 z).toNat : Int) := wrap_u .u8 rfl z
theorem wrap_i64 (z : Int) : IntKind.i64.wrap z = (BitVec.ofInt 64 z).toInt := wrap_s .i64 rfl z
theorem wrap_i32 (z : Int) : IntKind.i32.wrap z = (BitVec.ofInt 32 z).toInt := wrap_s .i32 rfl z
theorem wrap_i16 (z : Int) : IntKind.i16.wrap z = (BitVec.ofInt 16 z).toInt := wrap_s .i16 rfl z
theorem wrap_i8 (z : Int) : IntKind.i8.wrap z = (BitVec.ofInt 8 z).toInt := wrap_s .i8 rfl z
theorem wrap64_eq (z : Int) : Go.RowKit.wrap64 z = (BitVec.ofInt 64 z).toInt := by
  rw [← wrap_i64]; unfold Go.RowKit.wrap64
  simp [IntKind.wrap, IntKind.bits, IntKind.signed]
  split <;> omega

theorem bits_u64 (op : BinOp) (x y : Int) : bits op .u64 x y = ((match op with | .and => BitVec.ofInt 64 x &&& BitVec.ofInt 64 y | .or => BitVec.ofInt 64 x ||| BitVec.ofInt 64 y | .xor => BitVec.ofInt 64 x ^^^ BitVec.ofInt 64 y | _ => BitVec.ofInt 64 x &&& ~~~BitVec.ofInt 64 y : BitVec 64).toNat : Int) := by
  unfold bits; simp only [wrap_u64, IntKind.bits, BitVec.ofInt_natCast, BitVec.ofNat_toNat, BitVec.setWidth_eq]
  cases op <;> rfl
theorem bits_u32 (op : BinOp) (x y : Int) : bits op .u32 x y = ((match op with | .and => BitVec.ofInt 32 x &&& BitVec.ofInt 32 y | .or => BitVec.ofInt 32 x ||| BitVec.ofInt 32 y | .xor => BitVec.ofInt 32 x ^^^ BitVec.ofInt 32 y | _ => BitVec.ofInt 32 x &&& ~~~BitVec.ofInt 32 y : BitVec 32).toNat : Int) := by
  unfold bits; simp only [wrap_u32, IntKind.bits, BitVec.ofInt_natCast, BitVec.ofNat_toNat, BitVec.setWidth_eq]
  cases op <;> rfl
theorem bits_i64 (op : BinOp) (x y : Int) : bits op .i64 x y = (match op with | .and => BitVec.ofInt 64 x &&& BitVec.ofInt 64 y | .or => BitVec.ofInt 64 x ||| BitVec.ofInt 64 y | .xor => BitVec.ofInt 64 x ^^^ BitVec.ofInt 64 y | _ => BitVec.ofInt 64 x &&& ~~~BitVec.ofInt 64 y : BitVec 64).toInt := by
  unfold bits; simp only [wrap_i64, IntKind.bits, BitVec.ofInt_natCast, BitVec.ofNat_toNat, BitVec.setWidth_eq]
  cases op <;> rfl
theorem bits_i32 (op : BinOp) (x y : Int) : bits op .i32 x y = (match op with | .and => BitVec.ofInt 32 x &&& BitVec.ofInt 32 y | .or => BitVec.ofInt 32 x ||| BitVec.ofInt 32 y | .xor => BitVec.ofInt 32 x ^^^ BitVec.ofInt 32 y | _ => BitVec.ofInt 32 x &&& ~~~BitVec.ofInt 32 y : BitVec 32).toInt := by
  unfold bits; simp only [wrap_i32, IntKind.bits, BitVec.ofInt_natCast, BitVec.ofNat_toNat, BitVec.setWidth_eq]
  cases op <;> rfl
theorem bits_u16 (op : BinOp) (x y : Int) : bits op .u16 x y = ((match op with | .and => BitVec.ofInt 16 x &&& BitVec.ofInt 16 y | .or => BitVec.ofInt 16 x ||| BitVec.ofInt 16 y | .xor => BitVec.ofInt 16 x ^^^ BitVec.ofInt 16 y | _ => BitVec.ofInt 16 x &&& ~~~BitVec.ofInt 16 y : BitVec 16).toNat : Int) := by
  unfold bits; simp only [wrap_u16, IntKind.bits, BitVec.ofInt_natCast, BitVec.ofNat_toNat, BitVec.setWidth_eq]
  cases op <;> rfl
theorem bits_i16 (op : BinOp) (x y : Int) : bits op .i16 x y = (match op with | .and => BitVec.ofInt 16 x &&& BitVec.ofInt 16 y | .or => BitVec.ofInt 16 x ||| BitVec.ofInt 16 y | .xor => BitVec.ofInt 16 x ^^^ BitVec.ofInt 16 y | _ => BitVec.ofInt 16 x &&& ~~~BitVec.ofInt 16 y : BitVec 16).toInt := by
  unfold bits; simp only [wrap_i16, IntKind.bits, BitVec.ofInt_natCast, BitVec.ofNat_toNat, BitVec.setWidth_eq]
  cases op <;> rfl

theorem ex_u64 (x : Int) (h : 0 ≤ x) (h' : x ≤ 18446744073709551615) : ∃ b : BitVec 64, x = (b.toNat : Int) := ⟨BitVec.ofInt 64 x, by rw [BitVec.toNat_ofInt]; omega⟩
theorem ex_u32 (x : Int) (h : 0 ≤ x) (h' : x ≤ 4294967295) : ∃ b : BitVec 32, x = (b.toNat : Int) := ⟨BitVec.ofInt 32 x, by rw [BitVec.toNat_ofInt]; omega⟩
theorem ex_u16 (x : Int) (h : 0 ≤ x) (h' : x ≤ 65535) : ∃ b : BitVec 16, x = (b.toNat : Int) := ⟨BitVec.ofInt 16 x, by rw [BitVec.toNat_ofInt]; omega⟩
theorem ex_i64 (x : Int) (h : -9223372036854775808 ≤ x) (h' : x ≤ 9223372036854775807) : ∃ b : BitVec 64, x = b.toInt := ⟨BitVec.ofInt 64 x, by rw [← wrap_i64]; simp [IntKind.wrap, IntKind.bits, IntKind.signed]; split <;> omega⟩
theorem ex_i32 (x : Int) (h : -2147483648 ≤ x) (h' : x ≤ 2147483647) : ∃ b : BitVec 32, x = b.toInt := ⟨BitVec.ofInt 32 x, by rw [← wrap_i32]; simp [IntKind.wrap, IntKind.bits, IntKind.signed]; split <;> omega⟩
theorem ex_i16 (x : Int) (h : -32768 ≤ x) (h' : x ≤ 32767) : ∃ b : BitVec 16, x = b.toInt := ⟨BitVec.ofInt 16 x, by rw [← wrap_i16]; simp [IntKind.wrap, IntKind.bits, IntKind.signed]; split <;> omega⟩

theorem ofInt_nat (w v : Nat) (b : BitVec v) : BitVec.ofInt w (b.toNat : Int) = b.setWidth w := by
  rw [BitVec.ofInt_natCast, BitVec.ofNat_toNat]
theorem ofInt_int_down (w v : Nat) (h : w ≤ v) (b : BitVec v) : BitVec.ofInt w b.toInt = b.setWidth w := by
  apply BitVec.eq_of_toNat_eq
  rw [BitVec.toNat_ofInt, BitVec.toNat_setWidth, toInt_eq]
  have hd : (2 ^ v : Nat) = 2 ^ w * 2 ^ (v - w) := by rw [← Nat.pow_add]; congr 1; omega
  have hm : ((b.toNat : Int) - (2 ^ v : Nat)) % ((2 ^ w : Nat) : Int) = ((b.toNat : Int)) % ((2 ^ w : Nat) : Int) := by
    rw [hd, Int.natCast_mul, Int.sub_eq_add_neg, Int.neg_mul_eq_mul_neg, Int.add_mul_emod_self_left]
  split
  · omega
  · rw [hm]; omega
theorem ofInt_int_up (w v : Nat) (b : BitVec v) : BitVec.ofInt w b.toInt = b.signExtend w := rfl

/-! ### small helpers -/
theorem some_dec {p q : Prop} [Decidable p] [Decidable q] (h : p ↔ q) : some (decide p) = some (decide q) := by simp [h]
theorem some_no {q : Prop} [Decidable q] (h : ¬ q) : some false = some (decide q) := by simp [h]
theorem some_yes {q : Prop} [Decidable q] (h : q) : some true = some (decide q) := by simp [h]
theorem wfi64 {a : Int} (h : (Lit.int .i64 a).wf = true) : -9223372036854775808 ≤ a ∧ a ≤ 9223372036854775807 := by
  simpa [Lit.wf, IntKind.min, IntKind.max, IntKind.bits, IntKind.signed] using h
theorem wfi32 {a : Int} (h : (Lit.int .i32 a).wf = true) : -2147483648 ≤ a ∧ a ≤ 2147483647 := by
  simpa [Lit.wf, IntKind.min, IntKind.max, IntKind.bits, IntKind.signed] using h
theorem wfi16 {a : Int} (h : (Lit.int .i16 a).wf = true) : -32768 ≤ a ∧ a ≤ 32767 := by
  simpa [Lit.wf, IntKind.min, IntKind.max, IntKind.bits, IntKind.signed] using h
theorem wfu64 {a : Int} (h : (Lit.int .u64 a).wf = true) : 0 ≤ a ∧ a ≤ 18446744073709551615 := by
  simpa [Lit.wf, IntKind.min, IntKind.max, IntKind.bits, IntKind.signed] using h
theorem wfu32 {a : Int} (h : (Lit.int .u32 a).wf = true) : 0 ≤ a ∧ a ≤ 4294967295 := by
  simpa [Lit.wf, IntKind.min, IntKind.max, IntKind.bits, IntKind.signed] using h
theorem w64 {z : Int} (h0 : -9223372036854775808 ≤ z) (h1 : z ≤ 9223372036854775807) : wrap64 z = z := by unfold wrap64; omega
theorem wu64 {z : Int} (h0 : 0 ≤ z) (h1 : z ≤ 18446744073709551615) : IntKind.u64.wrap z = z := by
  simp [IntKind.wrap, IntKind.bits, IntKind.signed]; omega
theorem wu64m (z : Int) : IntKind.u64.wrap z = z % 18446744073709551616 := by
  simp [IntKind.wrap, IntKind.bits, IntKind.signed]
theorem wi64m (z : Int) : IntKind.i64.wrap z = wrap64 z := by
  unfold wrap64; simp [IntKind.wrap, IntKind.bits, IntKind.signed]; split <;> omega
theorem wu64_wrap64 (z : Int) : IntKind.u64.wrap (wrap64 z) = IntKind.u64.wrap z := by
  rw [wu64m, wu64m]; unfold wrap64
  rw [Int.sub_eq_add_neg, Int.emod_add_emod, Int.add_assoc, Int.add_right_neg, Int.add_zero]
theorem wrap64_wu64 (z : Int) : wrap64 (IntKind.u64.wrap z) = wrap64 z := by
  rw [wu64m]; unfold wrap64
  rw [Int.emod_add_emod]
theorem mod64 (a : Int) : a % 18446744073709551616 % 64 = a % 64 := Int.emod_emod_of_dvd a ⟨288230376151711744, by decide⟩
theorem mod32 (a : Int) : a % 18446744073709551616 % 32 = a % 32 := Int.emod_emod_of_dvd a ⟨576460752303423488, by decide⟩
theorem tmod_nn {a b : Int} (h : 0 ≤ a) : Int.tmod a b = a % b := Int.tmod_eq_emod_of_nonneg h
theorem and4095 (a : Int) (h0 : 0 ≤ a) (h1 : a ≤ 9223372036854775807) : Go.bits .and .i64 a 4095 = a % 4096 := by
  have := bits_mask .i64 63 (by decide) (by intro n h0 h1; simp [IntKind.wrap, IntKind.bits, IntKind.signed]; omega) 12 (by decide) a h0 (by omega)
  simpa using this
theorem bits_and_u64n (a b : Nat) (ha : a < 18446744073709551616) (hb : b < 18446744073709551616) : Go.bits .and .u64 (a : Int) (b : Int) = ((a &&& b : Nat) : Int) :=
  (bits_nat .u64 64 (by decide) (fun n h0 h1 => wu64 h0 (by omega)) a b (by simpa using ha) (by simpa using hb)).1
theorem bits_or_u64n (a b : Nat) (ha : a < 18446744073709551616) (hb : b < 18446744073709551616) : Go.bits .or .u64 (a : Int) (b : Int) = ((a ||| b : Nat) : Int) :=
  (bits_nat .u64 64 (by decide) (fun n h0 h1 => wu64 h0 (by omega)) a b (by simpa using ha) (by simpa using hb)).2
theorem wu32 {z : Int} (h0 : 0 ≤ z) (h1 : z ≤ 4294967295) : IntKind.u32.wrap z = z := by
  simp [IntKind.wrap, IntKind.bits, IntKind.signed]; omega
theorem bits_and_u32n (a b : Nat) (ha : a < 4294967296) (hb : b < 4294967296) : Go.bits .and .u32 (a : Int) (b : Int) = ((a &&& b : Nat) : Int) :=
  (bits_nat .u32 32 (by decide) (fun n h0 h1 => wu32 h0 (by omega)) a b (by simpa using ha) (by simpa using hb)).1
theorem bits_or_u32n (a b : Nat) (ha : a < 4294967296) (hb : b < 4294967296) : Go.bits .or .u32 (a : Int) (b : Int) = ((a ||| b : Nat) : Int) :=
  (bits_nat .u32 32 (by decide) (fun n h0 h1 => wu32 h0 (by omega)) a b (by simpa using ha) (by simpa using hb)).2
/-- the remainder of at least 0. -/
theorem rw_at (i n : Int) (hn : 0 < n) (hb : n ≤ 1152921504606846976) : Int.tmod (wrap64 (Int.tmod i n + n)) n = i % n := by
  have h1 := Int.tmod_lt_of_pos i hn
  have h2 : -n < Int.tmod i n := by
    by_cases h : 0 ≤ i
    · rw [Int.tmod_eq_emod_of_nonneg h]; have := Int.emod_nonneg i (b := n) (by omega); omega
    · obtain ⟨b, rfl⟩ : ∃ b, i = -b := ⟨-i, by omega⟩
      rw [Int.neg_tmod, Int.tmod_eq_emod_of_nonneg (by omega)]; have := Int.emod_lt_of_pos b hn; omega
  rw [w64 (by omega) (by omega), Int.tmod_eq_emod_of_nonneg (by omega), Int.add_emod_right]
  have e : Int.tmod i n = i - n * Int.tdiv i n := by have := Int.mul_tdiv_add_tmod i n; omega
  rw [e, Int.sub_eq_add_neg, Int.neg_mul_eq_mul_neg, Int.add_mul_emod_self_left]


/-- starts of runs of ones among the low w bits of x, with the bit p below bit 0. -/
def st : Bool → Nat → Nat → Nat
  | _, 0, _ => 0
  | p, w + 1, x => (if x % 2 = 1 ∧ p = false then 1 else 0) + st (decide (x % 2 = 1)) w (x / 2)

theorem st_zero (w : Nat) : st false w 0 = 0 := by
  induction w with
  | zero => rfl
  | succ w ih => simp [st, ih]

theorem st_pos (w : Nat) : ∀ x, x < 2 ^ w → st false w x = 0 → x = 0 := by
  induction w with
  | zero => intro x hx _; simp at hx; exact hx
  | succ w ih =>
    intro x hx h
    have hp : 2 ^ (w + 1) = 2 * 2 ^ w := by rw [Nat.pow_succ]; omega
    by_cases ho : x % 2 = 1
    · simp [st, ho] at h
    · have hd : decide (x % 2 = 1) = false := by simp [ho]
      simp only [st, hd] at h
      have := ih (x / 2) (by omega) (by omega)
      omega

theorem st_true (w : Nat) : ∀ x, x < 2 ^ w → st true w x = 0 → ∃ n, n ≤ w ∧ x = 2 ^ n - 1 := by
  induction w with
  | zero => intro x hx _; simp at hx; exact ⟨0, by omega, by simp [hx]⟩
  | succ w ih =>
    intro x hx h
    have hp : 2 ^ (w + 1) = 2 * 2 ^ w := by rw [Nat.pow_succ]; omega
    by_cases ho : x % 2 = 1
    · have hd : decide (x % 2 = 1) = true := by simp [ho]
      simp only [st, hd] at h
      obtain ⟨n, hn, hx'⟩ := ih (x / 2) (by omega) (by omega)
      refine ⟨n + 1, by omega, ?_⟩
      have : 2 ^ (n + 1) = 2 * 2 ^ n := by rw [Nat.pow_succ]; omega
      have := Nat.two_pow_pos n
      omega
    · have hd : decide (x % 2 = 1) = false := by simp [ho]
      simp only [st, hd] at h
      have := st_pos w (x / 2) (by omega) (by omega)
      exact ⟨0, by omega, by simp; omega⟩

theorem st_one (w : Nat) : ∀ x, x < 2 ^ w → st false w x = 1 → ∃ i n, 1 ≤ n ∧ i + n ≤ w ∧ x = 2 ^ i * (2 ^ n - 1) := by
  induction w with
  | zero => intro x _ h; simp [st] at h
  | succ w ih =>
    intro x hx h
    have hp : 2 ^ (w + 1) = 2 * 2 ^ w := by rw [Nat.pow_succ]; omega
    by_cases ho : x % 2 = 1
    · have hd : decide (x % 2 = 1) = true := by simp [ho]
      simp only [st, ho] at h
      obtain ⟨n, hn, hx'⟩ := st_true w (x / 2) (by omega) (by simp at h; omega)
      refine ⟨0, n + 1, by omega, by omega, ?_⟩
      have : 2 ^ (n + 1) = 2 * 2 ^ n := by rw [Nat.pow_succ]; omega
      have := Nat.two_pow_pos n
      rw [Nat.pow_zero, Nat.one_mul]
      omega
    · have hd : decide (x % 2 = 1) = false := by simp [ho]
      simp only [st, hd] at h
      obtain ⟨i, n, hn, hi, hx'⟩ := ih (x / 2) (by omega) (by simp [ho] at h; omega)
      refine ⟨i + 1, n, hn, by omega, ?_⟩
      rw [Nat.pow_succ, Nat.mul_comm (2 ^ i) 2, Nat.mul_assoc, ← hx']
      omega

theorem st_ones (n : Nat) : ∀ w, n ≤ w → st true w (2 ^ n - 1) = 0 := by
  induction n with
  | zero =>
    intro w _
    cases w with
    | zero => rfl
    | succ w => simp [st, st_zero]
  | succ n ih =>
    intro w hw
    obtain ⟨w, rfl⟩ : ∃ v, w = v + 1 := ⟨w - 1, by omega⟩
    have h2 : 2 ^ (n + 1) = 2 * 2 ^ n := by rw [Nat.pow_succ]; omega
    have hp := Nat.two_pow_pos n
    have hm : (2 ^ (n + 1) - 1) % 2 = 1 := by omega
    have hq : (2 ^ (n + 1) - 1) / 2 = 2 ^ n - 1 := by omega
    simp [st, hm, hq, ih w (by omega)]

theorem st_run (i : Nat) : ∀ n w, 1 ≤ n → i + n ≤ w → st false w (2 ^ i * (2 ^ n - 1)) = 1 := by
  induction i with
  | zero =>
    intro n w hn hw
    obtain ⟨n, rfl⟩ : ∃ v, n = v + 1 := ⟨n - 1, by omega⟩
    obtain ⟨w, rfl⟩ : ∃ v, w = v + 1 := ⟨w - 1, by omega⟩
    have h2 : 2 ^ (n + 1) = 2 * 2 ^ n := by rw [Nat.pow_succ]; omega
    have hp := Nat.two_pow_pos n
    have hm : (2 ^ 0 * (2 ^ (n + 1) - 1)) % 2 = 1 := by rw [Nat.pow_zero, Nat.one_mul]; omega
    have hq : (2 ^ 0 * (2 ^ (n + 1) - 1)) / 2 = 2 ^ n - 1 := by rw [Nat.pow_zero, Nat.one_mul]; omega
    simp only [st, hm, hq]
    simp [st_ones n w (by omega)]
  | succ i ih =>
    intro n w hn hw
    obtain ⟨w, rfl⟩ : ∃ v, w = v + 1 := ⟨w - 1, by omega⟩
    have hx : 2 ^ (i + 1) * (2 ^ n - 1) = 2 * (2 ^ i * (2 ^ n - 1)) := by rw [Nat.pow_succ, Nat.mul_comm (2 ^ i) 2, Nat.mul_assoc]
    rw [hx]
    have hm : (2 * (2 ^ i * (2 ^ n - 1))) % 2 = 0 := by omega
    have hq : (2 * (2 ^ i * (2 ^ n - 1))) / 2 = 2 ^ i * (2 ^ n - 1) := by omega
    simp only [st, hm, hq]
    simp [ih n w hn (by omega)]

theorem st_one_iff (w x : Nat) (hx : x < 2 ^ w) : st false w x = 1 ↔ ∃ i n, 1 ≤ n ∧ i + n ≤ w ∧ x = 2 ^ i * (2 ^ n - 1) :=
  ⟨st_one w x hx, fun ⟨i, n, hn, hw, e⟩ => e ▸ st_run i n w hn hw⟩

/-- the lowest one. -/
def low (w x : Nat) : Nat := x &&& ((2 ^ w - x) % 2 ^ w)

theorem and_compl (w x : Nat) (h : x < 2 ^ w) : x &&& (2 ^ w - 1 - x) = 0 := by
  apply Nat.eq_of_testBit_eq
  intro i
  have := Nat.testBit_two_pow_sub_succ h i
  rw [show 2 ^ w - (x + 1) = 2 ^ w - 1 - x from by omega] at this
  rw [Nat.testBit_and, this]
  cases x.testBit i <;> simp

theorem two_mul_and (a b : Nat) : 2 * a &&& 2 * b = 2 * (a &&& b) := by
  apply Nat.eq_of_testBit_eq
  intro i
  cases i with
  | zero => simp [Nat.testBit_zero]
  | succ i => rw [Nat.testBit_and, Nat.testBit_succ, Nat.testBit_succ, Nat.testBit_succ, show (2 * a) / 2 = a from by omega, show (2 * b) / 2 = b from by omega, show (2 * (a &&& b)) / 2 = (a &&& b) from by omega, Nat.testBit_and]

theorem two_mul_and1 (a b : Nat) : (2 * a + 1) &&& (2 * b + 1) = 2 * (a &&& b) + 1 := by
  apply Nat.eq_of_testBit_eq
  intro i
  cases i with
  | zero => simp [Nat.testBit_zero]
  | succ i =>
    rw [Nat.testBit_and, Nat.testBit_succ, Nat.testBit_succ, Nat.testBit_succ, show (2 * a + 1) / 2 = a from by omega, show (2 * b + 1) / 2 = b from by omega, show (2 * (a &&& b) + 1) / 2 = (a &&& b) from by omega, Nat.testBit_and]

theorem two_mul_and2 (a b : Nat) : (2 * a) &&& (2 * b + 1) = 2 * (a &&& b) := by
  apply Nat.eq_of_testBit_eq
  intro i
  cases i with
  | zero => simp [Nat.testBit_zero]
  | succ i =>
    rw [Nat.testBit_and, Nat.testBit_succ, Nat.testBit_succ, Nat.testBit_succ, show (2 * a) / 2 = a from by omega, show (2 * b + 1) / 2 = b from by omega, show (2 * (a &&& b)) / 2 = (a &&& b) from by omega, Nat.testBit_and]

theorem low_odd (w x : Nat) (h : x < 2 ^ w) (ho : x % 2 = 1) : low w x = 1 := by
  unfold low
  rw [Nat.mod_eq_of_lt (by omega)]
  obtain ⟨w, rfl⟩ : ∃ v, w = v + 1 := ⟨w - 1, by cases w with | zero => simp at h; omega | succ w => omega⟩
  have hp : 2 ^ (w + 1) = 2 * 2 ^ w := by rw [Nat.pow_succ]; omega
  have e1 : x = 2 * (x / 2) + 1 := by omega
  have e2 : 2 ^ (w + 1) - x = 2 * (2 ^ w - 1 - x / 2) + 1 := by omega
  rw [e2, e1, two_mul_and1, show (2 * (x / 2) + 1) / 2 = x / 2 from by omega, and_compl w (x / 2) (by omega)]

theorem low_even (w x : Nat) (h : x < 2 ^ (w + 1)) (he : x % 2 = 0) : low (w + 1) x = 2 * low w (x / 2) := by
  have hp : 2 ^ (w + 1) = 2 * 2 ^ w := by rw [Nat.pow_succ]; omega
  by_cases h0 : x = 0
  · subst h0; simp [low]
  · unfold low
    have e1 : x = 2 * (x / 2) := by omega
    rw [Nat.mod_eq_of_lt (a := 2 ^ (w + 1) - x) (by omega), Nat.mod_eq_of_lt (a := 2 ^ w - x / 2) (by omega)]
    rw [show 2 ^ (w + 1) - x = 2 * (2 ^ w - x / 2) from by omega]
    conv => lhs; rw [e1]
    rw [show (2 * (x / 2)) / 2 = x / 2 from by omega, two_mul_and]

/-- x + 1 carries through the ones at the low end. -/
theorem st_succ (w : Nat) : ∀ x, x < 2 ^ w → (x &&& ((x + 1) % 2 ^ w) = 0 ↔ st true w x = 0) := by
  induction w with
  | zero => intro x hx; simp at hx; subst hx; simp [st]
  | succ w ih =>
    intro x hx
    have hp : 2 ^ (w + 1) = 2 * 2 ^ w := by rw [Nat.pow_succ]; omega
    by_cases ho : x % 2 = 1
    · have hd : decide (x % 2 = 1) = true := by simp [ho]
      have e1 : x = 2 * (x / 2) + 1 := by omega
      have e2 : (x + 1) % 2 ^ (w + 1) = 2 * ((x / 2 + 1) % 2 ^ w) := by
        rw [hp, ← Nat.mul_mod_mul_left]; congr 1; omega
      have ih' := ih (x / 2) (by omega)
      simp only [st, hd]
      rw [e2, e1, Nat.and_comm, two_mul_and2, Nat.and_comm, show (2 * (x / 2) + 1) / 2 = x / 2 from by omega]
      constructor
      · intro h; have := ih'.1 (by omega); simp [this]
      · intro h; have := ih'.2 (by simpa using h); omega
    · have hd : decide (x % 2 = 1) = false := by simp [ho]
      have e1 : x = 2 * (x / 2) := by omega
      have e2 : (x + 1) % 2 ^ (w + 1) = 2 * (x / 2) + 1 := by rw [Nat.mod_eq_of_lt (by omega)]; omega
      simp only [st, hd]
      rw [e2]
      conv => lhs; rw [e1]
      rw [show 2 * (x / 2) / 2 = x / 2 from by omega, two_mul_and2, Nat.and_self]
      simp only [ho, false_and, if_false, Nat.zero_add]
      constructor
      · intro h; have : x / 2 = 0 := by omega
        rw [this, st_zero]
      · intro h; have := st_pos w (x / 2) (by omega) h; omega

/-- the test for a run: v & (v + low v) is 0. -/
theorem run_test (w : Nat) : ∀ x, x < 2 ^ w → (x &&& ((low w x + x) % 2 ^ w) = 0 ↔ st false w x ≤ 1) := by
  induction w with
  | zero => intro x hx; simp at hx; subst hx; simp [st]
  | succ w ih =>
    intro x hx
    have hp : 2 ^ (w + 1) = 2 * 2 ^ w := by rw [Nat.pow_succ]; omega
    by_cases ho : x % 2 = 1
    · rw [low_odd _ _ hx ho, Nat.add_comm 1 x, st_succ _ _ hx]
      have hd : decide (x % 2 = 1) = true := by simp [ho]
      simp only [st, ho]
      simp
      omega
    · have hd : decide (x % 2 = 1) = false := by simp [ho]
      rw [low_even _ _ hx (by omega)]
      have e1 : x = 2 * (x / 2) := by omega
      have e2 : (2 * low w (x / 2) + x) % 2 ^ (w + 1) = 2 * ((low w (x / 2) + x / 2) % 2 ^ w) := by
        rw [hp, ← Nat.mul_mod_mul_left]; congr 1; omega
      have ih' := ih (x / 2) (by omega)
      simp only [st, ho]
      rw [e2]
      conv => lhs; rw [e1]
      rw [show 2 * (x / 2) / 2 = x / 2 from by omega, two_mul_and]
      simp only [false_and, if_false, Nat.zero_add, decide_false]
      rw [← ih']
      omega

theorem st_true_add (w x : Nat) : st true (w + 1) x + x % 2 = st false (w + 1) x := by
  simp only [st]
  by_cases h : x % 2 = 1
  · simp [h]; omega
  · have : x % 2 = 0 := by omega
    simp [this]

def lst : Bool → Nat → Nat → Bool
  | p, 0, _ => p
  | _, w + 1, x => lst (decide (x % 2 = 1)) w (x / 2)

theorem lst_bit (w : Nat) : ∀ p x, lst p (w + 1) x = x.testBit w := by
  induction w with
  | zero => intro p x; simp [lst, Nat.testBit_zero]
  | succ w ih => intro p x; rw [lst, ih, Nat.testBit_succ]

def nb (b : Bool) : Nat := if b then 1 else 0

theorem updown (w : Nat) : ∀ p x, x < 2 ^ w → st p w x + nb p = st (!p) w (2 ^ w - 1 - x) + nb (lst p w x) := by
  induction w with
  | zero => intro p x _; simp [st, lst]
  | succ w ih =>
    intro p x hx
    have hp : 2 ^ (w + 1) = 2 * 2 ^ w := by rw [Nat.pow_succ]; omega
    have hc : (2 ^ (w + 1) - 1 - x) / 2 = 2 ^ w - 1 - x / 2 := by omega
    have hm : (2 ^ (w + 1) - 1 - x) % 2 = 1 - x % 2 := by omega
    simp only [st, lst, hc, hm]
    by_cases ho : x % 2 = 1
    · have := ih true (x / 2) (by omega)
      simp only [nb, Bool.not_true] at this
      cases p <;> simp [ho, nb] at this ⊢ <;> omega
    · have h0 : x % 2 = 0 := by omega
      have := ih false (x / 2) (by omega)
      simp only [nb, Bool.not_false] at this
      cases p <;> simp [h0, nb] at this ⊢ <;> omega

theorem st_nonzero (w x : Nat) (hx : x < 2 ^ w) : st false w x = 0 ↔ x = 0 := ⟨st_pos w x hx, fun h => h ▸ st_zero w⟩

/-- the test for a run that may go round, of w + 1 bits. -/
theorem turned_test (w v : Nat) (hv : v < 2 ^ (w + 1)) :
    ((v &&& ((low (w + 1) v + v) % 2 ^ (w + 1)) = 0 ∨ (2 ^ (w + 1) - 1 - v) &&& ((low (w + 1) (2 ^ (w + 1) - 1 - v) + (2 ^ (w + 1) - 1 - v)) % 2 ^ (w + 1)) = 0) ∧ v ≠ 0)
      ↔ (st (v.testBit w) (w + 1) v = 1 ∨ v = 2 ^ (w + 1) - 1) := by
  have hp := Nat.two_pow_pos (w + 1)
  have hp2 : 2 ^ (w + 1) = 2 * 2 ^ w := by rw [Nat.pow_succ]; omega
  rw [run_test _ _ hv, run_test _ _ (by omega)]
  have h1 := st_nonzero (w + 1) v hv
  have h2 := st_nonzero (w + 1) (2 ^ (w + 1) - 1 - v) (by omega)
  have h3 := st_true_add w v
  have h4 := st_true_add w (2 ^ (w + 1) - 1 - v)
  have h5 := updown (w + 1) false v hv
  rw [lst_bit] at h5
  have hm : (2 ^ (w + 1) - 1 - v) % 2 = 1 - v % 2 := by omega
  rw [hm] at h4
  cases hb : v.testBit w
  · simp only [hb, nb, Bool.not_false] at h5
    simp only [Bool.false_eq_true, if_false] at h5
    have : v ≠ 2 ^ (w + 1) - 1 := by
      intro h
      have := Nat.testBit_two_pow_sub_one (w + 1) w
      rw [← h, hb] at this
      simp at this
    omega
  · simp only [hb, nb, Bool.not_false] at h5
    simp only [if_true, Bool.false_eq_true, if_false] at h5
    have : v ≠ 0 := by intro h; simp [h] at hb
    omega

/-- the test of sequenceOfOnes: y - 1 and y have no bit in common. -/
theorem seq_test (w : Nat) : ∀ x, x < 2 ^ w → x ≠ 0 → ((((low w x + x) % 2 ^ w + (2 ^ w - 1)) % 2 ^ w) &&& ((low w x + x) % 2 ^ w) = 0 ↔ st false w x = 1) := by
  induction w with
  | zero => intro x hx h0; simp at hx; omega
  | succ w ih =>
    intro x hx h0
    have hp : 2 ^ (w + 1) = 2 * 2 ^ w := by rw [Nat.pow_succ]; omega
    have hpos := Nat.two_pow_pos w
    by_cases ho : x % 2 = 1
    · rw [low_odd _ _ hx ho, Nat.add_comm 1 x]
      have e : ((x + 1) % 2 ^ (w + 1) + (2 ^ (w + 1) - 1)) % 2 ^ (w + 1) = x := by
        by_cases hl : x + 1 = 2 ^ (w + 1)
        · rw [hl, Nat.mod_self, Nat.zero_add, Nat.mod_eq_of_lt (by omega)]; omega
        · rw [Nat.mod_eq_of_lt (a := x + 1) (by omega), show x + 1 + (2 ^ (w + 1) - 1) = x + 2 ^ (w + 1) from by omega, Nat.add_mod_right, Nat.mod_eq_of_lt hx]
      rw [e, st_succ _ _ hx]
      have := st_true_add w x
      omega
    · rw [low_even _ _ hx (by omega)]
      have e1 : x = 2 * (x / 2) := by omega
      have e2 : (2 * low w (x / 2) + x) % 2 ^ (w + 1) = 2 * ((low w (x / 2) + x / 2) % 2 ^ w) := by
        rw [hp, ← Nat.mul_mod_mul_left]; congr 1; omega
      have hst : st false (w + 1) x = st false w (x / 2) := by simp [st, ho]
      rw [hst, ← ih (x / 2) (by omega) (by omega), e2]
      generalize hy : (low w (x / 2) + x / 2) % 2 ^ w = y
      have hyl : y < 2 ^ w := by rw [← hy]; exact Nat.mod_lt _ hpos
      by_cases hz : y = 0
      · subst hz; simp
      · have e3 : (2 * y + (2 ^ (w + 1) - 1)) % 2 ^ (w + 1) = 2 * (y - 1) + 1 := by
          rw [show 2 * y + (2 ^ (w + 1) - 1) = 2 * (y - 1) + 1 + 2 ^ (w + 1) from by omega, Nat.add_mod_right, Nat.mod_eq_of_lt (by omega)]
        have e4 : (y + (2 ^ w - 1)) % 2 ^ w = y - 1 := by
          rw [show y + (2 ^ w - 1) = y - 1 + 2 ^ w from by omega, Nat.add_mod_right, Nat.mod_eq_of_lt (by omega)]
        rw [e3, e4, Nat.and_comm, two_mul_and2, Nat.and_comm]
        omega

/-- x and x - 1 have no bit in common: a power of 2. -/
theorem pow_test (w : Nat) : ∀ x, x < 2 ^ w → x ≠ 0 → (x &&& (x - 1) = 0 ↔ ∃ i, i < w ∧ x = 2 ^ i) := by
  induction w with
  | zero => intro x hx h0; simp at hx; omega
  | succ w ih =>
    intro x hx h0
    have hp : 2 ^ (w + 1) = 2 * 2 ^ w := by rw [Nat.pow_succ]; omega
    by_cases ho : x % 2 = 1
    · have e1 : x = 2 * (x / 2) + 1 := by omega
      have e2 : x - 1 = 2 * (x / 2) := by omega
      rw [e2]
      conv => lhs; lhs; lhs; rw [e1]
      rw [Nat.and_comm, two_mul_and2, Nat.and_self]
      constructor
      · intro h; exact ⟨0, by omega, by simp; omega⟩
      · rintro ⟨i, _, h⟩
        cases i with
        | zero => simp at h; omega
        | succ i => rw [Nat.pow_succ] at h; omega
    · have e1 : x = 2 * (x / 2) := by omega
      have e2 : x - 1 = 2 * (x / 2 - 1) + 1 := by omega
      rw [e2]
      conv => lhs; lhs; lhs; rw [e1]
      rw [two_mul_and2]
      have ih' := ih (x / 2) (by omega) (by omega)
      constructor
      · intro h
        obtain ⟨i, hi, h⟩ := ih'.1 (by omega)
        exact ⟨i + 1, by omega, by rw [Nat.pow_succ]; omega⟩
      · rintro ⟨i, hi, h⟩
        cases i with
        | zero => simp at h; omega
        | succ i =>
          rw [Nat.pow_succ] at h
          have := ih'.2 ⟨i, by omega, by omega⟩
          omega

theorem step (x y e c : BitVec 64) (h : 1#64 - x * y = c * e) : 1#64 - x * (y * (2#64 - x * y)) = (c * c) * (e * e) := by
  have : 1#64 - x * (y * (2#64 - x * y)) = (1#64 - x * y) * (1#64 - x * y) := by grind
  rw [this, h]; grind
def nxt (x y : BitVec 64) : BitVec 64 := y * (2#64 - x * y)
def minv (x : BitVec 64) : BitVec 64 := nxt x (nxt x (nxt x (nxt x (nxt x x))))
theorem base (x : BitVec 64) (hx : x.getLsbD 0 = true) : ∃ t, 1#64 - x * x = 8#64 * t := by
  obtain ⟨q, hq⟩ : ∃ q, x = 2#64 * q + 1#64 := by
    refine ⟨x >>> 1, ?_⟩
    have h1 : x.toNat % 2 = 1 := by
      simp [BitVec.getLsbD, Nat.testBit_zero] at hx; exact hx
    apply BitVec.eq_of_toNat_eq
    have := x.isLt
    simp [BitVec.toNat_add, BitVec.toNat_mul, BitVec.toNat_ushiftRight, Nat.shiftRight_eq_div_pow]
    omega
  have hr : ∃ r, q = 2#64 * r ∨ q = 2#64 * r + 1#64 := by
    refine ⟨q >>> 1, ?_⟩
    have := q.isLt
    by_cases h : q.toNat % 2 = 0
    · left
      apply BitVec.eq_of_toNat_eq
      simp [BitVec.toNat_mul, BitVec.toNat_ushiftRight, Nat.shiftRight_eq_div_pow]
      omega
    · right
      apply BitVec.eq_of_toNat_eq
      simp [BitVec.toNat_add, BitVec.toNat_mul, BitVec.toNat_ushiftRight, Nat.shiftRight_eq_div_pow]
      omega
  obtain ⟨r, h | h⟩ := hr
  · exact ⟨-(r * q + r), by subst h; subst hq; grind⟩
  · exact ⟨-((q) * (r + 1#64)), by subst h; subst hq; grind⟩
theorem inv_mul (x : BitVec 64) (hx : x.getLsbD 0 = true) : x * minv x = 1#64 := by
  obtain ⟨t, h0⟩ := base x hx
  have h1 := step _ _ _ _ h0
  have h2 := step _ _ _ _ h1
  have h3 := step _ _ _ _ h2
  have h4 := step _ _ _ _ h3
  have h5 := step _ _ _ _ h4
  have e : (8#64 * 8#64 * (8#64 * 8#64) * (8#64 * 8#64 * (8#64 * 8#64)) * (8#64 * 8#64 * (8#64 * 8#64) * (8#64 * 8#64 * (8#64 * 8#64))) *
        (8#64 * 8#64 * (8#64 * 8#64) * (8#64 * 8#64 * (8#64 * 8#64)) * (8#64 * 8#64 * (8#64 * 8#64) * (8#64 * 8#64 * (8#64 * 8#64))))) = 0#64 := by decide
  rw [e, BitVec.zero_mul] at h5
  unfold minv nxt
  generalize x * (x * (2#64 - x * x) * (2#64 - x * (x * (2#64 - x * x))) *
      (2#64 - x * (x * (2#64 - x * x) * (2#64 - x * (x * (2#64 - x * x))))) *
      (2#64 - x * (x * (2#64 - x * x) * (2#64 - x * (x * (2#64 - x * x))) *
          (2#64 - x * (x * (2#64 - x * x) * (2#64 - x * (x * (2#64 - x * x)))))))) = z at h5 ⊢
  first
    | grind
    | (generalize x * _ = z at h5 ⊢; grind)
theorem inv_unique (x y : BitVec 64) (hx : x.getLsbD 0 = true) (h : x * y = 1#64) : y = minv x := by
  have := inv_mul x hx
  grind
theorem inv_prod (x y : BitVec 64) (hx : x.getLsbD 0 = true) (hy : y.getLsbD 0 = true) (hxy : (x * y).getLsbD 0 = true) : minv (x * y) = minv x * minv y := by
  symm
  apply inv_unique _ _ hxy
  have h1 := inv_mul x hx
  have h2 := inv_mul y hy
  have : x * y * (minv x * minv y) = (x * minv x) * (y * minv y) := by grind
  rw [this, h1, h2]; decide

/-! ### turns of a word of w bits -/
def rot (w x s : Nat) : Nat := (x * 2 ^ s) % 2 ^ w ||| x / 2 ^ (w - s)
theorem rot_lt (w x s : Nat) (hx : x < 2 ^ w) : rot w x s < 2 ^ w := by
  unfold rot
  exact Nat.or_lt_two_pow (Nat.mod_lt _ (Nat.two_pow_pos w)) (Nat.lt_of_le_of_lt (Nat.div_le_self _ _) hx)
theorem rot_bit (w x s i : Nat) (hx : x < 2 ^ w) (hs : s < w) (hi : i < w) : (rot w x s).testBit i = x.testBit (if s ≤ i then i - s else i + w - s) := by
  unfold rot
  rw [Nat.testBit_or, Nat.testBit_mod_two_pow, Nat.testBit_mul_two_pow, Nat.testBit_div_two_pow]
  by_cases h : s ≤ i
  · have : x.testBit (i + (w - s)) = false := Nat.testBit_lt_two_pow (Nat.lt_of_lt_of_le hx (Nat.pow_le_pow_right (by decide) (by omega)))
    rw [if_pos h, this]
    simp [h, hi]
  · rw [if_neg h, show i + (w - s) = i + w - s from by omega]
    simp [h]
theorem eq_of_bits (w x y : Nat) (hx : x < 2 ^ w) (hy : y < 2 ^ w) (h : ∀ i, i < w → x.testBit i = y.testBit i) : x = y := by
  apply Nat.eq_of_testBit_eq
  intro i
  by_cases hi : i < w
  · exact h i hi
  · rw [Nat.testBit_lt_two_pow (Nat.lt_of_lt_of_le hx (Nat.pow_le_pow_right (by decide) (by omega))), Nat.testBit_lt_two_pow (Nat.lt_of_lt_of_le hy (Nat.pow_le_pow_right (by decide) (by omega)))]
theorem rot_rot (w x s t : Nat) (hx : x < 2 ^ w) (hs : s < w) (ht : t < w) : rot w (rot w x s) t = rot w x ((s + t) % w) := by
  refine eq_of_bits w _ _ (rot_lt _ _ _ (rot_lt _ _ _ hx)) (rot_lt _ _ _ hx) (fun i hi => ?_)
  rw [rot_bit w _ t i (rot_lt _ _ _ hx) ht hi, rot_bit w x ((s + t) % w) i hx (Nat.mod_lt _ (by omega)) hi]
  have hm : (s + t) % w = if s + t < w then s + t else s + t - w := by
    split
    · exact Nat.mod_eq_of_lt (by omega)
    · rw [Nat.mod_eq_sub_mod (by omega), Nat.mod_eq_of_lt (by omega)]
  rw [hm]
  by_cases h1 : t ≤ i
  · rw [if_pos h1, rot_bit w x s _ hx hs (by omega)]
    congr 1
    split <;> split <;> split <;> omega
  · rw [if_neg h1, rot_bit w x s _ hx hs (by omega)]
    congr 1
    split <;> split <;> split <;> omega
theorem rot_zero (w x : Nat) (hx : x < 2 ^ w) : rot w x 0 = x := by
  unfold rot
  rw [Nat.pow_zero, Nat.mul_one, Nat.mod_eq_of_lt hx, Nat.sub_zero, Nat.div_eq_of_lt hx, Nat.or_zero]
theorem rot_of (w x s : Nat) (hx : x < 2 ^ w) : ((x * 2 ^ s) ||| x / 2 ^ (w - s)) % 2 ^ w = rot w x s := by
  unfold rot
  rw [Nat.or_mod_two_pow, Nat.mod_eq_of_lt (a := x / 2 ^ (w - s)) (Nat.lt_of_le_of_lt (Nat.div_le_self _ _) hx)]

end Go.Proofs.Ytmfffeoodlmnbaa.Kit
