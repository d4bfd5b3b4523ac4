/- DecodePPC64RotateMask, and what mkGood asks: the walks. -/
import Derived.Test.YtmldgakbkachpaaDoorEn
namespace Go.Proofs.YtmldgakbkachpaaDoor.De
open Go.RowKit Go.Proofs.YtmldgakbkachpaaDoorW.PrintWords Go.Proofs.YtmldgakbkachpaaDoorW.PrintLast Go.Proofs.YtmldgakbkachpaaDoorW.PrintMore Go.Proofs.YtmldgakbkachpaaDoor.Kit Go.Proofs.YtmldgakbkachpaaDoor.Sp Go.Proofs.YtmldgakbkachpaaDoor.Wd Go.Proofs.YtmldgakbkachpaaDoor.En
def fR (E : Int) : Int := wrap64 (Go.bits .and .u64 (IntKind.u64.wrap E / 65536) 255)
def fB (E : Int) : Int := wrap64 (Go.bits .and .u64 (IntKind.u64.wrap E / 256) 255)
def fE (E : Int) : Int := wrap64 (Go.bits .and .u64 (IntKind.u64.wrap E) 255)
def fN (E : Int) : Int := wrap64 (Go.bits .and .u64 (IntKind.u64.wrap E / 16777216) 255)
def pw2 (a b : Int) : Int := IntKind.u64.wrap (IntKind.u64.wrap (2 ^ min (IntKind.u64.wrap (wrap64 (a - b))).toNat 64) - 1)
def fX (E : Int) : Int := Go.bits .xor .u64 (pw2 (fN E) (fB E)) (pw2 (fN E) (fE E))
def fI (E : Int) : Int := Go.bits .and .i64 (wrap64 (fE E - 1)) (wrap64 (fN E - 1))
def fM (E : Int) : Int := if (fN E == 32) = true then (if fE E < fB E then ntu (fX E) else fX E) % 4294967296 else (if fE E < fB E then ntu (fX E) else fX E)
theorem fM_tt (E : Int) (h : fE E < fB E) (h' : (fN E == 32) = true) : fM E = ntu (fX E) % 4294967296 := by unfold fM; rw [if_pos h', if_pos h]
theorem fM_tf (E : Int) (h : fE E < fB E) (h' : (fN E == 32) = false) : fM E = ntu (fX E) := by unfold fM; rw [if_neg (by rw [h']; decide), if_pos h]
theorem fM_ft (E : Int) (h : fB E ≤ fE E) (h' : (fN E == 32) = true) : fM E = fX E % 4294967296 := by unfold fM; rw [if_pos h', if_neg (by omega)]
theorem fM_ff (E : Int) (h : fB E ≤ fE E) (h' : (fN E == 32) = false) : fM E = fX E := by unfold fM; rw [if_neg (by rw [h']; decide), if_neg (by omega)]
set_option maxHeartbeats 1000000 in
set_option maxRecDepth 100000 in
theorem d34 (E : Int) (w : World) :
    Calls Tryd.prog 34 #[.int .i64 E] w fun e w' => e = .returned (.tuple #[.int .i64 (fR E), .int .i64 (fB E), .int .i64 (fI E), .int .u64 (fM E)]) ∧ w' = w := by
  have hun2 := unu
  go_enter Tryd.func34, Tryd.ntmps34
  go_wp2_with fail
  · have hM := fM_tt E (by assumption) (by assumption)
    rw [hM]
    exact bodyPost_ret (by simp [results, Tryd.results34, go_sem]; exact ⟨rfl, rfl, rfl, rfl⟩) rfl ⟨rfl, rfl⟩
  · have hM := fM_tf E (by assumption) (by assumption)
    rw [hM]
    exact bodyPost_ret (by simp [results, Tryd.results34, go_sem]; exact ⟨rfl, rfl, rfl, rfl⟩) rfl ⟨rfl, rfl⟩
  · have hM := fM_ft E (by assumption) (by assumption)
    rw [hM]
    exact bodyPost_ret (by simp [results, Tryd.results34, go_sem]; exact ⟨rfl, rfl, rfl, rfl⟩) rfl ⟨rfl, rfl⟩
  · have hM := fM_ff E (by assumption) (by assumption)
    rw [hM]
    exact bodyPost_ret (by simp [results, Tryd.results34, go_sem]; exact ⟨rfl, rfl, rfl, rfl⟩) rfl ⟨rfl, rfl⟩
theorem c17 (E : Int) (w : World) : Calls Tryd.prog 17 #[.int .i64 E] w fun e w' => e = .returned (.tuple #[.int .i64 (fR E), .int .i64 (fB E), .int .i64 (fI E), .int .u64 (fM E)]) ∧ w' = w := by
  go_enter Tryd.func17, Tryd.ntmps17
  go_wp2_with (go_at_call 34; refine (d34 _ _).mono ?_; rintro e w' ⟨rfl, rfl⟩)
  exact bodyPost_ret (by simp [results, Tryd.results17, go_sem]) rfl ⟨rfl, rfl⟩
theorem shl_one (i : Nat) (h : i < 64) : shl .u64 1 (i : Int) = ((2 ^ i : Nat) : Int) := by
  have hp : 2 ^ i < 2 ^ 64 := Nat.pow_lt_pow_right (by decide) h
  have M : (2 : Nat) ^ 64 = 18446744073709551616 := by decide
  have hc : ((2 : Int) ^ i) = ((2 ^ i : Nat) : Int) := by simp
  unfold shl
  rw [Int.toNat_natCast, Nat.min_eq_left (show i ≤ IntKind.u64.bits from Nat.le_of_lt h), Int.one_mul, hc, wu64 (Int.natCast_nonneg _) (by omega)]
theorem shl_nat (x i : Nat) (h : i ≤ 64) : shl .u64 (x : Int) (i : Int) = ((x * 2 ^ i % 18446744073709551616 : Nat) : Int) := by
  unfold shl
  rw [Int.toNat_natCast, Nat.min_eq_left (show i ≤ IntKind.u64.bits from h), wu64m]
  simp
theorem shr_nat' (x i : Nat) (h : i ≤ 64) : shr .u64 (x : Int) (i : Int) = ((x / 2 ^ i : Nat) : Int) := by
  unfold shr
  rw [Int.toNat_natCast, Nat.min_eq_left (show i ≤ IntKind.u64.bits from h)]
  simp
theorem low_any (x b : Nat) (h : b < 64) : spec_Low.f (x : Int) (b : Int) = some ((x % 2 ^ b : Nat) : Int) := by
  have hp := Nat.two_pow_pos b
  unfold spec_Low.f
  rw [if_neg (by omega), if_pos (by omega), shl_one b h, if_neg (by omega), tmod_nn (Int.natCast_nonneg _)]
  simp
theorem low_64 (x : Int) : spec_Low.f x 64 = some x := by unfold spec_Low.f; rw [if_pos (by decide)]
theorem turn_32 (x s : Nat) (hs : s < 32) : spec_Turn.f (x : Int) 32 (s : Int) = some ((rot 32 (x % 4294967296) s : Nat) : Int) := by
  have M : (2 : Nat) ^ 32 = 4294967296 := by decide
  have l := low_any x 32 (by decide)
  rw [M] at l
  rw [show (((32 : Nat)) : Int) = 32 from rfl] at l
  unfold spec_Turn.f
  rw [if_neg (by decide), l]
  simp only [Option.bind_some]
  have hx : x % 4294967296 < 4294967296 := Nat.mod_lt _ (by decide)
  generalize x % 4294967296 = y at *
  have hp : 2 ^ s ≤ 2 ^ 31 := Nat.pow_le_pow_right (by decide) (by omega)
  have M31 : (2 : Nat) ^ 31 = 2147483648 := by decide
  have e1 : Int.tmod (s : Int) 32 = (s : Int) := by rw [tmod_nn (by omega)]; omega
  have e2 : IntKind.u64.wrap (32 - (s : Int)) = ((32 - s : Nat) : Int) := by rw [wu64 (by omega) (by omega)]; omega
  have hm : y * 2 ^ s < 18446744073709551616 := by
    have := Nat.mul_le_mul (show y ≤ 4294967295 by omega) (show 2 ^ s ≤ 2147483648 by omega)
    omega
  have hd : y / 2 ^ (32 - s) < 18446744073709551616 := Nat.lt_of_le_of_lt (Nat.div_le_self _ _) (by omega)
  rw [e1, if_pos (by omega), e2, if_pos (by omega), shl_nat y s (by omega), shr_nat' y (32 - s) (by omega), Nat.mod_eq_of_lt hm, bits_or_u64n _ _ hm hd]
  have l2 := low_any (y * 2 ^ s ||| y / 2 ^ (32 - s)) 32 (by decide)
  rw [show (((32 : Nat)) : Int) = 32 from rfl, rot_of 32 y s (by rw [M]; exact hx)] at l2
  rw [l2]; rfl
theorem turn_64 (x s : Nat) (hx : x < 18446744073709551616) (hs : s ≤ 64) : spec_Turn.f (x : Int) 64 (s : Int) = some ((rot 64 x (s % 64) : Nat) : Int) := by
  have M : (2 : Nat) ^ 64 = 18446744073709551616 := by decide
  unfold spec_Turn.f
  rw [if_neg (by decide), low_64]
  simp only [Option.bind_some]
  have e1 : Int.tmod (s : Int) 64 = ((s % 64 : Nat) : Int) := by rw [tmod_nn (by omega)]; omega
  have hs' : s % 64 < 64 := Nat.mod_lt _ (by decide)
  rw [e1]
  generalize s % 64 = t at *
  have e2 : IntKind.u64.wrap (64 - (t : Int)) = ((64 - t : Nat) : Int) := by rw [wu64 (by omega) (by omega)]; omega
  have hd : x / 2 ^ (64 - t) < 18446744073709551616 := Nat.lt_of_le_of_lt (Nat.div_le_self _ _) (by omega)
  rw [if_pos (by omega), e2, if_pos (by omega), shl_nat x t (by omega), shr_nat' x (64 - t) (by omega), bits_or_u64n _ _ (Nat.mod_lt _ (by decide)) hd, low_64]
  unfold rot
  rw [M]
  try rfl
theorem rl_any (x : Nat) (k : Int) (s : Nat) (hx : x < 18446744073709551616) (hs : s < 64) (hk : k % 18446744073709551616 % 64 = (s : Int)) :
    bits_RotateLeft64.f (x : Int) k = some ((rot 64 x s : Nat) : Int) := by
  have M : (2 : Nat) ^ 64 = 18446744073709551616 := by decide
  have e0 : Go.bits .and .u64 (IntKind.u64.wrap k) 63 = (s : Int) := by
    rw [wu64m]
    have := bits_mask .u64 64 (by decide) (fun n h0 h1 => wu64 h0 (by simp at h1; omega)) 6 (by decide) (k % 18446744073709551616) (by omega) (by simp; omega)
    rw [← hk]
    simpa using this
  unfold bits_RotateLeft64.f
  have e2 : IntKind.u64.wrap (64 - (s : Int)) = ((64 - s : Nat) : Int) := by rw [wu64 (by omega) (by omega)]; omega
  have hd : x / 2 ^ (64 - s) < 18446744073709551616 := Nat.lt_of_le_of_lt (Nat.div_le_self _ _) (by omega)
  rw [e0, if_pos (by omega), e2, if_pos (by omega), shl_nat x s (by omega), shr_nat' x (64 - s) (by omega), bits_or_u64n _ _ (Nat.mod_lt _ (by decide)) hd]
  unfold rot
  rw [M]
theorem bits_xor_u64n (a b : Nat) (ha : a < 18446744073709551616) (hb : b < 18446744073709551616) : Go.bits .xor .u64 (a : Int) (b : Int) = ((a ^^^ b : Nat) : Int) := by
  have M : (2 : Nat) ^ 64 = 18446744073709551616 := by decide
  have hx : a ^^^ b < 2 ^ 64 := Nat.xor_lt_two_pow (by omega) (by omega)
  rw [bits_u64]
  simp only []
  rw [BitVec.ofInt_natCast, BitVec.ofInt_natCast, BitVec.toNat_xor, BitVec.toNat_ofNat, BitVec.toNat_ofNat, M, Nat.mod_eq_of_lt ha, Nat.mod_eq_of_lt hb]
theorem and255 (a : Nat) (ha : a < 18446744073709551616) : Go.bits .and .u64 (a : Int) 255 = ((a % 256 : Nat) : Int) := by
  have := bits_and_u64n a 255 ha (by decide)
  rw [show ((255 : Nat) : Int) = 255 from rfl] at this
  rw [this]
  have := Nat.and_two_pow_sub_one_eq_mod a 8
  rw [show 2 ^ 8 - 1 = 255 by decide, show 2 ^ 8 = 256 by decide] at this
  rw [this]
theorem and255i (a : Nat) (ha : a < 9223372036854775808) : Go.bits .and .i64 (a : Int) 255 = ((a % 256 : Nat) : Int) := by
  rw [bits_i64]
  simp only []
  have h : (BitVec.ofInt 64 (a : Int) &&& BitVec.ofInt 64 255).toNat = a % 256 := by
    rw [BitVec.toNat_and, BitVec.ofInt_natCast, BitVec.toNat_ofNat, Nat.mod_eq_of_lt (by omega)]
    have := Nat.and_two_pow_sub_one_eq_mod a 8
    rw [show 2 ^ 8 - 1 = 255 by decide, show 2 ^ 8 = 256 by decide] at this
    exact this
  rw [toInt_eq, h, if_pos (by omega)]
def encN (me mb r nb : Nat) : Nat := me + mb * 256 + r * 65536 + nb * 16777216
theorem enc_nat (me mb r nb : Nat) : enc (me : Int) (mb : Int) (r : Int) (nb : Int) = (encN me mb r nb : Int) := by unfold enc encN; omega
theorem fld (E d v : Nat) (hE : E < 4294967296) (h : E / d % 256 = v) : wrap64 (Go.bits .and .u64 (IntKind.u64.wrap (E : Int) / (d : Int)) 255) = (v : Int) := by
  have e1 : IntKind.u64.wrap (E : Int) = (E : Int) := wu64 (by omega) (by omega)
  have e2 : (E : Int) / (d : Int) = ((E / d : Nat) : Int) := by simp
  have e3 : E / d ≤ E := Nat.div_le_self _ _
  rw [e1, e2, and255 _ (by omega), h]
  have : v < 256 := by rw [← h]; exact Nat.mod_lt _ (by decide)
  exact w64 (by omega) (by omega)
def pwOk (nb k : Nat) : Bool := pw2 (nb : Int) (k : Int) == (((2 ^ (nb - k) % 2 ^ 64 + (2 ^ 64 - 1)) % 2 ^ 64 : Nat) : Int)
def inOk (nb k : Nat) : Bool := Go.bits .and .i64 (wrap64 ((k : Int) - 1)) (wrap64 ((nb : Int) - 1)) == (((k + nb - 1) % nb : Nat) : Int)
theorem all32 : ((List.range 33).all fun k => pwOk 32 k && inOk 32 k) = true := by decide +kernel
theorem all64 : ((List.range 65).all fun k => pwOk 64 k && inOk 64 k) = true := by decide +kernel
theorem pw_in (nb k : Nat) (hn : nb = 32 ∨ nb = 64) (hk : k ≤ nb) : pw2 (nb : Int) (k : Int) = (((2 ^ (nb - k) % 2 ^ 64 + (2 ^ 64 - 1)) % 2 ^ 64 : Nat) : Int) ∧ Go.bits .and .i64 (wrap64 ((k : Int) - 1)) (wrap64 ((nb : Int) - 1)) = (((k + nb - 1) % nb : Nat) : Int) := by
  have : (pwOk nb k && inOk nb k) = true := by
    rcases hn with rfl | rfl
    · exact List.all_eq_true.1 all32 k (by simp; omega)
    · exact List.all_eq_true.1 all64 k (by simp; omega)
  unfold pwOk inOk at this
  simpa only [Bool.and_eq_true, beq_iff_eq] using this
theorem dec_enc (nb me mb r : Nat) (hn : nb = 32 ∨ nb = 64) (hb : mb ≤ nb) (he : me ≤ nb) (hr : r < 64) :
    fR (encN me mb r nb) = (r : Int) ∧ fB (encN me mb r nb) = (mb : Int) ∧ fE (encN me mb r nb) = (me : Int) ∧ fN (encN me mb r nb) = (nb : Int) ∧ fI (encN me mb r nb) = (((me + nb - 1) % nb : Nat) : Int) ∧ fM (encN me mb r nb) = (dmask nb mb me : Int) := by
  have hE : encN me mb r nb < 4294967296 := by unfold encN; omega
  have r1 : fR (encN me mb r nb) = (r : Int) := fld _ 65536 r hE (by unfold encN; omega)
  have r2 : fB (encN me mb r nb) = (mb : Int) := fld _ 256 mb hE (by unfold encN; omega)
  have r3 : fE (encN me mb r nb) = (me : Int) := by
    have := fld _ 1 me hE (by unfold encN; omega)
    rw [show ((1 : Nat) : Int) = 1 from rfl, Int.ediv_one] at this
    exact this
  have r4 : fN (encN me mb r nb) = (nb : Int) := fld _ 16777216 nb hE (by unfold encN; omega)
  have p1 := pw_in nb mb hn hb
  have p2 := pw_in nb me hn he
  refine ⟨r1, r2, r3, r4, ?_, ?_⟩
  · unfold fI; rw [r3, r4]; exact p2.2
  · have hx : fX (encN me mb r nb) = ((((2 ^ (nb - mb) % 2 ^ 64 + (2 ^ 64 - 1)) % 2 ^ 64) ^^^ ((2 ^ (nb - me) % 2 ^ 64 + (2 ^ 64 - 1)) % 2 ^ 64) : Nat) : Int) := by
      unfold fX
      rw [r2, r3, r4, p1.1, p2.1]
      exact bits_xor_u64n _ _ (Nat.mod_lt _ (by decide)) (Nat.mod_lt _ (by decide))
    unfold fM dmask
    rw [hx, r2, r3, r4]
    have hl : ((2 ^ (nb - mb) % 2 ^ 64 + (2 ^ 64 - 1)) % 2 ^ 64) ^^^ ((2 ^ (nb - me) % 2 ^ 64 + (2 ^ 64 - 1)) % 2 ^ 64) < 2 ^ 64 := Nat.xor_lt_two_pow (Nat.mod_lt _ (by decide)) (Nat.mod_lt _ (by decide))
    generalize ((2 ^ (nb - mb) % 2 ^ 64 + (2 ^ 64 - 1)) % 2 ^ 64) ^^^ ((2 ^ (nb - me) % 2 ^ 64 + (2 ^ 64 - 1)) % 2 ^ 64) = y at *
    have hy : (2 ^ 64 - 1) ^^^ y = 18446744073709551615 - y := by
      apply Nat.eq_of_testBit_eq
      intro i
      have := Nat.testBit_two_pow_sub_succ hl i
      rw [show 2 ^ 64 - (y + 1) = 18446744073709551615 - y by omega] at this
      rw [this, Nat.testBit_xor, Nat.testBit_two_pow_sub_one]
      by_cases h : i < 64
      · simp [h]
      · have : y.testBit i = false := Nat.testBit_lt_two_pow (Nat.lt_of_lt_of_le hl (Nat.pow_le_pow_right (by decide) (by omega)))
        simp [h, this]
    have hu := ntu_nat y (by omega)
    simp only []
    by_cases hlt : me < mb
    · rw [if_pos hlt, if_pos (show (me : Int) < (mb : Int) by omega), hu, hy]
      rcases hn with rfl | rfl
      · rw [if_pos (by decide), if_pos rfl]; omega
      · rw [if_neg (by decide), if_neg (by decide)]
    · rw [if_neg hlt, if_neg (show ¬ (me : Int) < (mb : Int) by omega)]
      rcases hn with rfl | rfl
      · rw [if_pos (by decide), if_pos rfl]; omega
      · rw [if_neg (by decide), if_neg (by decide)]
end Go.Proofs.YtmldgakbkachpaaDoor.De
