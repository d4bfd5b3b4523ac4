/- Leading zeros and logarithms: what the package's functions and the thin package return, over the shelf's contracts of math/bits; no condition. -/
import Derived.Test.YtfnhbjpflpbebaaProg
import Derived.Test.YtfnhbjpflpbebaaKit
import Derived.Test.YtfnhbjpflpbebaaShelf
import Derived.WalkKit
import Derived.Lib.Hide
namespace Go.Proofs.Ytfnhbjpflpbebaa.Lz
open Go.RowKit Go.Proofs.Ytfnhbjpflpbebaa.Kit
theorem u64 (x : Int) : 0 ≤ IntKind.u64.wrap x ∧ IntKind.u64.wrap x ≤ 18446744073709551615 := by
  rw [wu64m]; omega
def lz64 (x : Int) : Int := (64 : Int) - (Lib.bitLen (IntKind.u64.wrap x).toNat : Int)
theorem c63 (x : Int) (w : World) : Calls Try.prog 63 #[.int .i64 x] w fun e w' => e = .returned (.int .i64 (lz64 x)) ∧ w' = w := by
  have H0 := Lib.hid (u64 x).1
  have H1 := Lib.hid (u64 x).2
  have HL : Hid (lz64 x = (64 : Int) - (Lib.bitLen (IntKind.u64.wrap x).toNat : Int)) := Lib.hid rfl
  go_enter Try.func63, Try.ntmps63
  go_wp2_with (go_at_call 75; refine (Try.bits_LeadingZeros64 _ _ H0.out H1.out).mono ?_; rintro e w' ⟨rfl, rfl⟩)
  go_ret
  exact ⟨by rw [HL.out]; rfl, rfl⟩
theorem c44 (x : Int) (w : World) : Calls Try.prog 44 #[.int .i64 x] w fun e w' => e = .returned (.int .i64 (lz64 x)) ∧ w' = w := by
  go_enter Try.func44, Try.ntmps44
  go_wp2_with (go_at_call 63; refine (c63 _ _).mono ?_; rintro e w' ⟨rfl, rfl⟩)
  go_ret
  exact ⟨rfl, rfl⟩
theorem c25 (x : Int) (w : World) : Calls Try.prog 25 #[.int .i64 x] w fun e w' => e = .returned (.int .i64 (lz64 x)) ∧ w' = w := by
  go_enter Try.func25, Try.ntmps25
  go_wp2_with (go_at_call 44; refine (c44 _ _).mono ?_; rintro e w' ⟨rfl, rfl⟩)
  go_ret
  exact ⟨rfl, rfl⟩
theorem u32 (x : Int) : 0 ≤ x % 4294967296 ∧ x % 4294967296 ≤ 4294967295 := by
  omega
def lz32 (x : Int) : Int := (32 : Int) - (Lib.bitLen (x % 4294967296).toNat : Int)
theorem c64 (x : Int) (w : World) : Calls Try.prog 64 #[.int .i32 x] w fun e w' => e = .returned (.int .i64 (lz32 x)) ∧ w' = w := by
  have H0 := Lib.hid (u32 x).1
  have H1 := Lib.hid (u32 x).2
  have HL : Hid (lz32 x = (32 : Int) - (Lib.bitLen (x % 4294967296).toNat : Int)) := Lib.hid rfl
  go_enter Try.func64, Try.ntmps64
  go_wp2_with (go_at_call 76; refine (Try.bits_LeadingZeros32 _ _ H0.out H1.out).mono ?_; rintro e w' ⟨rfl, rfl⟩)
  go_ret
  exact ⟨by rw [HL.out]; rfl, rfl⟩
theorem c46 (x : Int) (w : World) : Calls Try.prog 46 #[.int .i32 x] w fun e w' => e = .returned (.int .i64 (lz32 x)) ∧ w' = w := by
  go_enter Try.func46, Try.ntmps46
  go_wp2_with (go_at_call 64; refine (c64 _ _).mono ?_; rintro e w' ⟨rfl, rfl⟩)
  go_ret
  exact ⟨rfl, rfl⟩
theorem c27 (x : Int) (w : World) : Calls Try.prog 27 #[.int .i32 x] w fun e w' => e = .returned (.int .i64 (lz32 x)) ∧ w' = w := by
  go_enter Try.func27, Try.ntmps27
  go_wp2_with (go_at_call 46; refine (c46 _ _).mono ?_; rintro e w' ⟨rfl, rfl⟩)
  go_ret
  exact ⟨rfl, rfl⟩
theorem u16 (x : Int) : 0 ≤ IntKind.u16.wrap x ∧ IntKind.u16.wrap x ≤ 65535 := by
  have : IntKind.u16.wrap x = x % 65536 := by simp [IntKind.wrap, IntKind.bits, IntKind.signed]
  rw [this]; omega
def lz16 (x : Int) : Int := (16 : Int) - (Lib.bitLen (IntKind.u16.wrap x).toNat : Int)
theorem c65 (x : Int) (w : World) : Calls Try.prog 65 #[.int .i16 x] w fun e w' => e = .returned (.int .i64 (lz16 x)) ∧ w' = w := by
  have H0 := Lib.hid (u16 x).1
  have H1 := Lib.hid (u16 x).2
  have HL : Hid (lz16 x = (16 : Int) - (Lib.bitLen (IntKind.u16.wrap x).toNat : Int)) := Lib.hid rfl
  go_enter Try.func65, Try.ntmps65
  go_wp2_with (go_at_call 77; refine (Try.bits_LeadingZeros16 _ _ H0.out H1.out).mono ?_; rintro e w' ⟨rfl, rfl⟩)
  go_ret
  exact ⟨by rw [HL.out]; rfl, rfl⟩
theorem c47 (x : Int) (w : World) : Calls Try.prog 47 #[.int .i16 x] w fun e w' => e = .returned (.int .i64 (lz16 x)) ∧ w' = w := by
  go_enter Try.func47, Try.ntmps47
  go_wp2_with (go_at_call 65; refine (c65 _ _).mono ?_; rintro e w' ⟨rfl, rfl⟩)
  go_ret
  exact ⟨rfl, rfl⟩
theorem c28 (x : Int) (w : World) : Calls Try.prog 28 #[.int .i16 x] w fun e w' => e = .returned (.int .i64 (lz16 x)) ∧ w' = w := by
  go_enter Try.func28, Try.ntmps28
  go_wp2_with (go_at_call 47; refine (c47 _ _).mono ?_; rintro e w' ⟨rfl, rfl⟩)
  go_ret
  exact ⟨rfl, rfl⟩
theorem u8 (x : Int) : 0 ≤ x % 256 ∧ x % 256 ≤ 255 := by
  omega
def lz8 (x : Int) : Int := (8 : Int) - (Lib.bitLen (x % 256).toNat : Int)
theorem c66 (x : Int) (w : World) : Calls Try.prog 66 #[.int .i8 x] w fun e w' => e = .returned (.int .i64 (lz8 x)) ∧ w' = w := by
  have H0 := Lib.hid (u8 x).1
  have H1 := Lib.hid (u8 x).2
  have HL : Hid (lz8 x = (8 : Int) - (Lib.bitLen (x % 256).toNat : Int)) := Lib.hid rfl
  go_enter Try.func66, Try.ntmps66
  go_wp2_with (go_at_call 78; refine (Try.bits_LeadingZeros8 _ _ H0.out H1.out).mono ?_; rintro e w' ⟨rfl, rfl⟩)
  go_ret
  exact ⟨by rw [HL.out]; rfl, rfl⟩
theorem c48 (x : Int) (w : World) : Calls Try.prog 48 #[.int .i8 x] w fun e w' => e = .returned (.int .i64 (lz8 x)) ∧ w' = w := by
  go_enter Try.func48, Try.ntmps48
  go_wp2_with (go_at_call 66; refine (c66 _ _).mono ?_; rintro e w' ⟨rfl, rfl⟩)
  go_ret
  exact ⟨rfl, rfl⟩
theorem c29 (x : Int) (w : World) : Calls Try.prog 29 #[.int .i8 x] w fun e w' => e = .returned (.int .i64 (lz8 x)) ∧ w' = w := by
  go_enter Try.func29, Try.ntmps29
  go_wp2_with (go_at_call 48; refine (c48 _ _).mono ?_; rintro e w' ⟨rfl, rfl⟩)
  go_ret
  exact ⟨rfl, rfl⟩
def lg (x : Int) : Int := (Lib.bitLen (IntKind.u64.wrap x).toNat : Int) - 1
theorem bitLen_le (x : Nat) : Lib.bitLen x ≤ 64 := by
  have : ∀ f x, Lib.bitLenAux f x ≤ f := by
    intro f
    induction f with
    | zero => intro x; exact Nat.le_refl _
    | succ f ih => intro x; unfold Lib.bitLenAux; have := ih (x / 2); split <;> omega
  exact this 64 _
theorem c73 (x : Int) (w : World) (h0 : 0 ≤ x) (h1 : x ≤ 18446744073709551615) : Calls Try.prog 73 #[.int .u64 x] w fun e w' => e = .returned (.int .i64 ((Lib.bitLen x.toNat : Int) - 1)) ∧ w' = w := by
  have hb : (Lib.bitLen x.toNat : Int) ≤ 64 := by have := bitLen_le x.toNat; omega
  have H0 := Lib.hid h0
  have H1 := Lib.hid h1
  clear h0 h1
  go_enter Try.func73, Try.ntmps73
  go_wp2_with (go_at_call 79; refine (Try.bits_Len64 _ _ H0.out H1.out).mono ?_; rintro e w' ⟨rfl, rfl⟩)
  go_ret
  exact ⟨rfl, rfl⟩
theorem c56 (x : Int) (w : World) : Calls Try.prog 56 #[.int .i64 x] w fun e w' => e = .returned (.int .i64 (lg x)) ∧ w' = w := by
  have H0 := Lib.hid (u64 x).1
  have H1 := Lib.hid (u64 x).2
  have HL : Hid (lg x = (Lib.bitLen (IntKind.u64.wrap x).toNat : Int) - 1) := Lib.hid rfl
  go_enter Try.func56, Try.ntmps56
  go_wp2_with (go_at_call 73; refine (c73 _ _ H0.out H1.out).mono ?_; rintro e w' ⟨rfl, rfl⟩)
  go_ret
  exact ⟨by rw [HL.out]; rfl, rfl⟩
theorem c36 (x : Int) (w : World) : Calls Try.prog 36 #[.int .i64 x] w fun e w' => e = .returned (.int .i64 (lg x)) ∧ w' = w := by
  go_enter Try.func36, Try.ntmps36
  go_wp2_with (go_at_call 56; refine (c56 _ _).mono ?_; rintro e w' ⟨rfl, rfl⟩)
  go_ret
  exact ⟨rfl, rfl⟩
theorem c13 (x : Int) (w : World) : Calls Try.prog 13 #[.int .i64 x] w fun e w' => e = .returned (.int .i64 (lg x)) ∧ w' = w := by
  go_enter Try.func13, Try.ntmps13
  go_wp2_with (go_at_call 36; refine (c36 _ _).mono ?_; rintro e w' ⟨rfl, rfl⟩)
  go_ret
  exact ⟨rfl, rfl⟩
end Go.Proofs.Ytfnhbjpflpbebaa.Lz
