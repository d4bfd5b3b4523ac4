/- encodePPC64RotateMask and DecodePPC64RotateMask: what they return, over the tables that the library lays; no other condition but that the mask is one and the numbers are in range. The walks. -/
import Derived.Test.YtmldgakbkachpaaDoorWd
import Derived.Test.YtmldgakbkachpaaDoorShelf
import Derived.Shelf.Spec.TrailingZeros
namespace Go.Proofs.YtmldgakbkachpaaDoor.En
open Go.RowKit Go.Proofs.YtmldgakbkachpaaDoorW.PrintWords Go.Proofs.YtmldgakbkachpaaDoorW.PrintLast Go.Proofs.YtmldgakbkachpaaDoorW.PrintMore Go.Proofs.YtmldgakbkachpaaDoor.Kit Go.Proofs.YtmldgakbkachpaaDoor.Sp Go.Proofs.YtmldgakbkachpaaDoor.Wd
/-- the two tables as the library lays them. -/
def Tabs (w : World) : Prop := TabAt 0 Lib.deBruijn32tab w ∧ TabAt 1 Lib.deBruijn64tab w
set_option maxHeartbeats 1000000 in
theorem core64 (x k idx : Nat) (w : World) (hx0 : ((x : Int) == 0) = false)
    (key : IntKind.u64.wrap (bits BinOp.and IntKind.u64 (x : Int) (IntKind.u64.wrap (-(x : Int))) * 285870213051353865) / 288230376151711744 = (idx : Int))
    (hi : idx < 64) (hk : k < 64) (hcell : w.cell? ⟨1, idx, none⟩ = some (.int .u8 k)) :
    Calls Tryd.prog 61 #[.int .u64 x] w fun e w' => e = .returned (.int .i64 k) ∧ w' = w := by
  go_enter Tryd.func61, Tryd.ntmps61
  go_wp2_with (simp only [key])
  go_ret
  exact ⟨rfl, rfl⟩
theorem zero64 (w : World) : Calls Tryd.prog 61 #[.int .u64 0] w fun e w' => e = .returned (.int .i64 64) ∧ w' = w := by
  go_enter Tryd.func61, Tryd.ntmps61
  go_wp2
  go_ret
  exact ⟨rfl, rfl⟩
theorem tz64 (x : Nat) (hx : x < 18446744073709551616) (w : World) (hT : TabAt 1 Lib.deBruijn64tab w) :
    Calls Tryd.prog 61 #[.int .u64 x] w fun e w' => e = .returned (.int .i64 (Lib.ctz 64 x)) ∧ w' = w := by
  by_cases hx0 : x = 0
  · subst hx0
    exact zero64 w
  · obtain ⟨hlow, hk⟩ := Lib.lowest_bit 64 x hx0 hx
    obtain ⟨hi, htab⟩ := Lib.deBruijn64_at _ hk
    have hcell := hT _ hi
    rw [htab] at hcell
    exact core64 x _ _ w (by simp; omega) (tz64_key x _ hx hx0 hlow) hi hk hcell
set_option maxHeartbeats 1000000 in
theorem core32 (x k idx : Nat) (w : World) (hx0 : ((x : Int) == 0) = false)
    (key : bits BinOp.and IntKind.u32 (x : Int) (-(x : Int) % 4294967296) * 125613361 % 4294967296 / 134217728 = (idx : Int))
    (hi : idx < 32) (hk : k < 32) (hcell : w.cell? ⟨0, idx, none⟩ = some (.int .u8 k)) :
    Calls Tryd.prog 59 #[.int .u32 x] w fun e w' => e = .returned (.int .i64 k) ∧ w' = w := by
  go_enter Tryd.func59, Tryd.ntmps59
  go_wp2_with (simp only [key])
  go_ret
  exact ⟨rfl, rfl⟩
theorem zero32 (w : World) : Calls Tryd.prog 59 #[.int .u32 0] w fun e w' => e = .returned (.int .i64 32) ∧ w' = w := by
  go_enter Tryd.func59, Tryd.ntmps59
  go_wp2
  go_ret
  exact ⟨rfl, rfl⟩
theorem tz32 (x : Nat) (hx : x < 4294967296) (w : World) (hT : TabAt 0 Lib.deBruijn32tab w) :
    Calls Tryd.prog 59 #[.int .u32 x] w fun e w' => e = .returned (.int .i64 (Lib.ctz 32 x)) ∧ w' = w := by
  by_cases hx0 : x = 0
  · subst hx0
    exact zero32 w
  · obtain ⟨hlow, hk⟩ := Lib.lowest_bit 32 x hx0 hx
    obtain ⟨hi, htab⟩ := Lib.deBruijn32_at _ hk
    have hcell := hT _ hi
    rw [htab] at hcell
    exact core32 x _ _ w (by simp; omega) (tz32_key x _ hx hx0 hlow) hi hk hcell
theorem bitLenAux_le : ∀ f w x, x < 2 ^ w → Lib.bitLenAux f x ≤ w := by
  intro f
  induction f with
  | zero => intro w x _; exact Nat.zero_le _
  | succ f ih =>
    intro w x hx
    unfold Lib.bitLenAux
    by_cases h : x = 0
    · rw [if_pos h]; exact Nat.zero_le _
    · rw [if_neg h]
      cases w with
      | zero => simp at hx; omega
      | succ w => have := ih w (x / 2) (by rw [Nat.pow_succ] at hx; omega); omega
theorem bitLen_le (w x : Nat) (hx : x < 2 ^ w) : Lib.bitLen x ≤ w := bitLenAux_le 64 w x hx
theorem ctzFrom_le : ∀ f x, Lib.ctzFrom f x ≤ f := by
  intro f
  induction f with
  | zero => intro x; exact Nat.le_refl _
  | succ f ih => intro x; unfold Lib.ctzFrom; have := ih (x / 2); split <;> omega
theorem ctz_le (w x : Nat) : Lib.ctz w x ≤ w := by
  unfold Lib.ctz
  split
  · exact Nat.le_refl _
  · exact ctzFrom_le w x
theorem lz32 (x : Nat) (hx : x < 4294967296) (w : World) :
    Calls Tryd.prog 58 #[.int .u32 x] w fun e w' => e = .returned (.int .i64 ((32 - Lib.bitLen x : Nat) : Int)) ∧ w' = w := by
  have h := Tryd.bits_LeadingZeros32 (x : Int) w (by omega) (by omega)
  have hb := bitLen_le 32 x (by simpa using hx)
  rw [Int.toNat_natCast, show (32 : Int) - (Lib.bitLen x : Int) = ((32 - Lib.bitLen x : Nat) : Int) by omega] at h
  exact h
theorem lz64 (x : Nat) (hx : x < 18446744073709551616) (w : World) :
    Calls Tryd.prog 60 #[.int .u64 x] w fun e w' => e = .returned (.int .i64 ((64 - Lib.bitLen x : Nat) : Int)) ∧ w' = w := by
  have h := Tryd.bits_LeadingZeros64 (x : Int) w (by omega) (by omega)
  have hb := bitLen_le 64 x (by simpa using hx)
  rw [Int.toNat_natCast, show (64 : Int) - (Lib.bitLen x : Int) = ((64 - Lib.bitLen x : Nat) : Int) by omega] at h
  exact h
/-- the complements, as the walk spells them. -/
def nti (n : Int) : Int := Go.bits .xor .i64 (-1) n
def ntu (n : Int) : Int := Go.bits .xor .u64 18446744073709551615 n
theorem uni (n : Int) : Op.unary .xor (.int .i64 n) = pure (.int .i64 (nti n)) := by
  show Op.intBits .xor .i64 (if IntKind.i64.signed then -1 else IntKind.i64.max) n = _
  rw [show (if IntKind.i64.signed then -1 else IntKind.i64.max) = (-1 : Int) from by decide +kernel]
  rfl
theorem unu (n : Int) : Op.unary .xor (.int .u64 n) = pure (.int .u64 (ntu n)) := by
  show Op.intBits .xor .u64 (if IntKind.u64.signed then -1 else IntKind.u64.max) n = _
  rw [show (if IntKind.u64.signed then -1 else IntKind.u64.max) = (18446744073709551615 : Int) from by decide +kernel]
  rfl
theorem ntu_nat (x : Nat) (hx : x < 18446744073709551616) : ntu (x : Int) = ((18446744073709551615 - x : Nat) : Int) := by
  unfold ntu
  rw [bits_u64]
  simp only []
  have e : (BitVec.ofInt 64 18446744073709551615 ^^^ BitVec.ofInt 64 (x : Int)) = ~~~ (BitVec.ofInt 64 (x : Int)) := by
    rw [show BitVec.ofInt 64 18446744073709551615 = BitVec.allOnes 64 from by decide, BitVec.allOnes_xor]
  rw [e, BitVec.toNat_not, BitVec.ofInt_natCast, BitVec.toNat_ofNat]
  omega
theorem nti_zero (m : Int) (h : m % 18446744073709551616 ≠ 18446744073709551615) : (nti m == 0) = false := by
  have hu : IntKind.u64.wrap (nti m) = 18446744073709551615 - m % 18446744073709551616 := by
    unfold nti
    rw [bits_i64]
    simp only []
    have e : (BitVec.ofInt 64 (-1) ^^^ BitVec.ofInt 64 m) = ~~~ (BitVec.ofInt 64 m) := by
      rw [show BitVec.ofInt 64 (-1) = BitVec.allOnes 64 from by decide, BitVec.allOnes_xor]
    rw [e, wrap_u64, BitVec.ofInt_toInt, BitVec.toNat_not, BitVec.toNat_ofInt]
    omega
  apply beq_false_of_ne
  intro h0
  rw [h0, wu64m] at hu
  omega
theorem or_comm (x y : Int) : Go.bits .or .i64 x y = Go.bits .or .i64 y x := by
  rw [bits_i64, bits_i64]
  simp only []
  rw [BitVec.or_comm]
theorem or_add (x y : Int) (i : Nat) (hx0 : 0 ≤ x) (hx : x % 2 ^ i = 0) (hx1 : x < 9223372036854775808) (hy0 : 0 ≤ y) (hy : y < 2 ^ i) (hy1 : y < 9223372036854775808) : Go.bits .or .i64 x y = x + y :=
  bits_join .i64 63 (by decide) (fun n h0 h1 => by rw [wi64m, w64 (by omega) (by simp at h1; omega)]) i x y hx0 hx (by simpa using hx1) hy0 hy (by simpa using hy1)
def enc (me mb r nb : Int) : Int := me + mb * 256 + r * 65536 + nb * 16777216
theorem or4 (me mb r nb : Int) (h1 : 0 ≤ me) (h2 : me < 256) (h3 : 0 ≤ mb) (h4 : mb < 256) (h5 : 0 ≤ r) (h6 : r < 256) (h7 : 0 ≤ nb) (h8 : nb < 256) :
    Go.bits .or .i64 (Go.bits .or .i64 (Go.bits .or .i64 me (mb * 256)) (r * 65536)) (nb * 16777216) = enc me mb r nb := by
  rw [or_comm me, or_add (mb * 256) me 8 (by omega) (by simp <;> omega) (by omega) (by omega) (by simp <;> omega) (by omega),
    or_comm _ (r * 65536), or_add (r * 65536) _ 16 (by omega) (by simp <;> omega) (by omega) (by omega) (by simp <;> omega) (by omega),
    or_comm _ (nb * 16777216), or_add (nb * 16777216) _ 24 (by omega) (by simp <;> omega) (by omega) (by omega) (by simp <;> omega) (by omega)]
  unfold enc; omega
theorem ret_int {k : IntKind} {a b : Int} (h : a = b) : Ending.returned (.int k a) = .returned (.int k b) := by rw [h]
/-- what the code stores of the ends, on its three ways; w the number of bits, W its place. -/
theorem way1 (w m l1 l2 t1 t2 : Nat) (r W : Int) (hw : w ≤ 64) (hW : W = (w : Int) * 16777216) (HE : ends w m = if l1 = 0 ∧ w - t1 = w then (w - t2, l2) else (l1, w - t1)) (h1 : l1 = 0) (h2 : ((w : Int) - (t1 : Int) == (w : Int)) = true)
    (a1 : (t1 : Int) ≤ w) (a2 : (t2 : Int) ≤ w) (a3 : (l2 : Int) ≤ w) (r0 : 0 ≤ r) (r1 : r < w) :
    Go.bits .or .i64 (Go.bits .or .i64 (Go.bits .or .i64 (l2 : Int) (((w : Int) - (t2 : Int)) * 256)) (r * 65536)) W = enc ((ends w m).2 : Int) ((ends w m).1 : Int) r w := by
  have h2' := beq_iff_eq.1 h2
  rw [HE, if_pos ⟨h1, by omega⟩, hW, or4 _ _ r w (by omega) (by omega) (by omega) (by omega) (by omega) (by omega) (by omega) (by omega)]
  unfold enc
  simp only []
  omega
theorem way2 (w m l1 l2 t1 t2 : Nat) (r W : Int) (hw : w ≤ 64) (hW : W = (w : Int) * 16777216) (HE : ends w m = if l1 = 0 ∧ w - t1 = w then (w - t2, l2) else (l1, w - t1)) (h1 : l1 = 0) (h2 : ((w : Int) - (t1 : Int) == (w : Int)) = false)
    (a1 : (t1 : Int) ≤ w) (r0 : 0 ≤ r) (r1 : r < w) :
    Go.bits .or .i64 (Go.bits .or .i64 (Go.bits .or .i64 ((w : Int) - (t1 : Int)) 0) (r * 65536)) W = enc ((ends w m).2 : Int) ((ends w m).1 : Int) r w := by
  have h2' := beq_eq_false_iff_ne.1 h2
  have := or4 ((w : Int) - t1) 0 r w (by omega) (by omega) (by omega) (by omega) (by omega) (by omega) (by omega) (by omega)
  rw [Int.zero_mul] at this
  rw [HE, if_neg (by omega), hW, this]
  unfold enc
  simp only []
  omega
theorem way3 (w m l1 l2 t1 t2 : Nat) (r W : Int) (hw : w ≤ 64) (hW : W = (w : Int) * 16777216) (HE : ends w m = if l1 = 0 ∧ w - t1 = w then (w - t2, l2) else (l1, w - t1)) (h1 : ¬ l1 = 0)
    (a1 : (t1 : Int) ≤ w) (a2 : (l1 : Int) ≤ w) (r0 : 0 ≤ r) (r1 : r < w) :
    Go.bits .or .i64 (Go.bits .or .i64 (Go.bits .or .i64 ((w : Int) - (t1 : Int)) ((l1 : Int) * 256)) (r * 65536)) W = enc ((ends w m).2 : Int) ((ends w m).1 : Int) r w := by
  rw [HE, if_neg (by omega), hW, or4 _ _ r w (by omega) (by omega) (by omega) (by omega) (by omega) (by omega) (by omega) (by omega)]
  unfold enc
  simp only []
  omega
set_option maxHeartbeats 2000000 in
set_option maxRecDepth 100000 in
theorem e47 (r : Int) (m : Nat) (w : World) (hT : Tabs w) (hr0 : 0 ≤ r) (hr : r < 32) (hm0 : 0 < m) (hm : m < 4294967296) :
    Calls Tryd.prog 47 #[.int .i64 r, .int .i64 m, .int .i64 32] w fun e w' => e = .returned (.int .i64 (enc (ends 32 m).2 (ends 32 m).1 r 32)) ∧ w' = w := by
  have hun := uni
  have hun2 := un32
  have hz := nti_zero (m : Int) (by omega)
  have hm1 : ((m : Int) == 0) = false := by simp; omega
  have hr1 : decide (32 ≤ r) = false := by simp; omega
  have hm' : (m : Int) < 4294967296 := by omega
  have em : (m : Int) % 4294967296 = m := by omega
  have H1 : Hid (∀ w, Calls Tryd.prog 58 #[.int .u32 ((m : Int) % 4294967296)] w fun e w' => e = .returned (.int .i64 ((32 - Lib.bitLen m : Nat) : Int)) ∧ w' = w) := Lib.hid (fun w => by rw [em]; exact lz32 m hm w)
  have H2 : Hid (∀ w, TabAt 0 Lib.deBruijn32tab w → Calls Tryd.prog 59 #[.int .u32 ((m : Int) % 4294967296)] w fun e w' => e = .returned (.int .i64 (Lib.ctz 32 m)) ∧ w' = w) := Lib.hid (fun w => by rw [em]; exact tz32 m hm w)
  have e2 := nt32_nat m hm
  have H3 : Hid (∀ w, Calls Tryd.prog 58 #[.int .u32 (nt32 ((m : Int) % 4294967296))] w fun e w' => e = .returned (.int .i64 ((32 - Lib.bitLen (4294967295 - m) : Nat) : Int)) ∧ w' = w) := Lib.hid (fun w => by rw [em, e2]; exact lz32 _ (by omega) w)
  have H4 : Hid (∀ w, TabAt 0 Lib.deBruijn32tab w → Calls Tryd.prog 59 #[.int .u32 (nt32 ((m : Int) % 4294967296))] w fun e w' => e = .returned (.int .i64 (Lib.ctz 32 (4294967295 - m))) ∧ w' = w) := Lib.hid (fun w => by rw [em, e2]; exact tz32 _ (by omega) w)
  have HT := Lib.hid hT.1
  have a1 : ((32 - Lib.bitLen m : Nat) : Int) ≤ 32 := by omega
  have a3 : ((32 - Lib.bitLen (4294967295 - m) : Nat) : Int) ≤ 32 := by omega
  have a2 : (Lib.ctz 32 m : Int) ≤ 32 := by have := ctz_le 32 m; omega
  have a4 : (Lib.ctz 32 (4294967295 - m) : Int) ≤ 32 := by have := ctz_le 32 (4294967295 - m); omega
  have HE : Hid (ends 32 m = if 32 - Lib.bitLen m = 0 ∧ 32 - Lib.ctz 32 m = 32 then (32 - Lib.ctz 32 (4294967295 - m), 32 - Lib.bitLen (4294967295 - m)) else (32 - Lib.bitLen m, 32 - Lib.ctz 32 m)) := Lib.hid rfl
  clear e2 em hT hm hm0 hm'
  generalize 32 - Lib.bitLen m = l1 at *
  generalize 32 - Lib.bitLen (4294967295 - m) = l2 at *
  generalize Lib.ctz 32 m = t1 at *
  generalize Lib.ctz 32 (4294967295 - m) = t2 at *
  go_enter Tryd.func47, Tryd.ntmps47
  go_wp2_with (first
    | (go_at_call 58; first | ((with_reducible refine (H1.out _).mono ?_); rintro e w' ⟨rfl, rfl⟩) | ((with_reducible refine (H3.out _).mono ?_); rintro e w' ⟨rfl, rfl⟩))
    | (go_at_call 59; first | ((with_reducible refine (H2.out _ HT.out).mono ?_); rintro e w' ⟨rfl, rfl⟩) | ((with_reducible refine (H4.out _ HT.out).mono ?_); rintro e w' ⟨rfl, rfl⟩)))
  · go_ret
    exact ⟨ret_int (way1 32 m l1 l2 t1 t2 r _ (by omega) (by decide) HE.out (by assumption) (by assumption) a2 a4 a3 hr0 hr), rfl⟩
  · go_ret
    exact ⟨ret_int (way2 32 m l1 l2 t1 t2 r _ (by omega) (by decide) HE.out (by assumption) (by assumption) a2 hr0 hr), rfl⟩
  · go_ret
    exact ⟨ret_int (way3 32 m l1 l2 t1 t2 r _ (by omega) (by decide) HE.out (by assumption) a2 a1 hr0 hr), rfl⟩
set_option maxHeartbeats 2000000 in
set_option maxRecDepth 100000 in
theorem g47 (r M : Int) (m : Nat) (w : World) (hT : Tabs w) (hr0 : 0 ≤ r) (hr : r < 64) (hM : IntKind.u64.wrap M = m) (hm0 : 0 < m) (hm : m < 18446744073709551615) :
    Calls Tryd.prog 47 #[.int .i64 r, .int .i64 M, .int .i64 64] w fun e w' => e = .returned (.int .i64 (enc (ends 64 m).2 (ends 64 m).1 r 64)) ∧ w' = w := by
  have hun := uni
  have hun2 := unu
  have hz := nti_zero M (by rw [wu64m] at hM; omega)
  have hm1 : (M == 0) = false := by apply beq_false_of_ne; intro h; rw [h, wu64m] at hM; omega
  have hr1 : decide (64 ≤ r) = false := by simp; omega
  have H1 : Hid (∀ w, Calls Tryd.prog 60 #[.int .u64 (IntKind.u64.wrap M)] w fun e w' => e = .returned (.int .i64 ((64 - Lib.bitLen m : Nat) : Int)) ∧ w' = w) := Lib.hid (fun w => by rw [hM]; exact lz64 m (by omega) w)
  have H2 : Hid (∀ w, TabAt 1 Lib.deBruijn64tab w → Calls Tryd.prog 61 #[.int .u64 (IntKind.u64.wrap M)] w fun e w' => e = .returned (.int .i64 (Lib.ctz 64 m)) ∧ w' = w) := Lib.hid (fun w => by rw [hM]; exact tz64 m (by omega) w)
  have e2 := ntu_nat m (by omega)
  have H3 : Hid (∀ w, Calls Tryd.prog 60 #[.int .u64 (ntu (IntKind.u64.wrap M))] w fun e w' => e = .returned (.int .i64 ((64 - Lib.bitLen (18446744073709551615 - m) : Nat) : Int)) ∧ w' = w) := Lib.hid (fun w => by rw [hM, e2]; exact lz64 _ (by omega) w)
  have H4 : Hid (∀ w, TabAt 1 Lib.deBruijn64tab w → Calls Tryd.prog 61 #[.int .u64 (ntu (IntKind.u64.wrap M))] w fun e w' => e = .returned (.int .i64 (Lib.ctz 64 (18446744073709551615 - m))) ∧ w' = w) := Lib.hid (fun w => by rw [hM, e2]; exact tz64 _ (by omega) w)
  have HT := Lib.hid hT.2
  have a1 : ((64 - Lib.bitLen m : Nat) : Int) ≤ 64 := by omega
  have a3 : ((64 - Lib.bitLen (18446744073709551615 - m) : Nat) : Int) ≤ 64 := by omega
  have a2 : (Lib.ctz 64 m : Int) ≤ 64 := by have := ctz_le 64 m; omega
  have a4 : (Lib.ctz 64 (18446744073709551615 - m) : Int) ≤ 64 := by have := ctz_le 64 (18446744073709551615 - m); omega
  have HE : Hid (ends 64 m = if 64 - Lib.bitLen m = 0 ∧ 64 - Lib.ctz 64 m = 64 then (64 - Lib.ctz 64 (18446744073709551615 - m), 64 - Lib.bitLen (18446744073709551615 - m)) else (64 - Lib.bitLen m, 64 - Lib.ctz 64 m)) := Lib.hid rfl
  clear e2 hT hm hm0 hM
  generalize 64 - Lib.bitLen m = l1 at *
  generalize 64 - Lib.bitLen (18446744073709551615 - m) = l2 at *
  generalize Lib.ctz 64 m = t1 at *
  generalize Lib.ctz 64 (18446744073709551615 - m) = t2 at *
  go_enter Tryd.func47, Tryd.ntmps47
  go_wp2_with (first
    | (go_at_call 60; first | ((with_reducible refine (H1.out _).mono ?_); rintro e w' ⟨rfl, rfl⟩) | ((with_reducible refine (H3.out _).mono ?_); rintro e w' ⟨rfl, rfl⟩))
    | (go_at_call 61; first | ((with_reducible refine (H2.out _ HT.out).mono ?_); rintro e w' ⟨rfl, rfl⟩) | ((with_reducible refine (H4.out _ HT.out).mono ?_); rintro e w' ⟨rfl, rfl⟩)))
  · go_ret
    exact ⟨ret_int (way1 64 m l1 l2 t1 t2 r _ (by omega) (by decide) HE.out (by assumption) (by assumption) a2 a4 a3 hr0 hr), rfl⟩
  · go_ret
    exact ⟨ret_int (way2 64 m l1 l2 t1 t2 r _ (by omega) (by decide) HE.out (by assumption) (by assumption) a2 hr0 hr), rfl⟩
  · go_ret
    exact ⟨ret_int (way3 64 m l1 l2 t1 t2 r _ (by omega) (by decide) HE.out (by assumption) a2 a1 hr0 hr), rfl⟩
end Go.Proofs.YtmldgakbkachpaaDoor.En
