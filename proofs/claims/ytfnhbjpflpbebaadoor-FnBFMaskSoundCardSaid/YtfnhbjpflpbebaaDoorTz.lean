/- bits.TrailingZeros64 over the table that its initialiser lays: the walk of the library's text; and what this seat's laws call of it. No condition beyond the table's cells. -/
import Derived.Test.YtfnhbjpflpbebaaDoorProg
import Derived.Test.YtfnhbjpflpbebaaDoorKit
import Derived.Shelf.Spec.TrailingZeros
import Derived.Lib.Hide
namespace Go.Proofs.YtfnhbjpflpbebaaDoor.Tz
open Go.RowKit Go.Proofs.YtfnhbjpflpbebaaDoor.Kit
set_option maxHeartbeats 1000000 in
theorem core (x k idx : Nat) (w : World) (hx0 : ((x : Int) == 0) = false)
    (key : IntKind.u64.wrap (bits BinOp.and IntKind.u64 (x : Int) (IntKind.u64.wrap (-(x : Int))) * 285870213051353865) / 288230376151711744 = (idx : Int))
    (hi : idx < 64) (hk : k < 64) (hcell : w.cell? ⟨0, idx, none⟩ = some (.int .u8 k)) :
    Calls Tryd.prog 23 #[.int .u64 x] w fun e w' => e = .returned (.int .i64 k) ∧ w' = w := by
  go_enter Tryd.func23, Tryd.ntmps23
  go_wp2_with (simp only [key])
  go_ret
  exact ⟨rfl, rfl⟩
theorem zero (w : World) : Calls Tryd.prog 23 #[.int .u64 0] w fun e w' => e = .returned (.int .i64 64) ∧ w' = w := by
  go_enter Tryd.func23, Tryd.ntmps23
  go_wp2
  go_ret
  exact ⟨rfl, rfl⟩
theorem tz (x : Nat) (hx : x < 18446744073709551616) (w : World) (hT : TabAt 0 Lib.deBruijn64tab w) :
    Calls Tryd.prog 23 #[.int .u64 x] w fun e w' => e = .returned (.int .i64 (Lib.ctz 64 x)) ∧ w' = w := by
  by_cases hx0 : x = 0
  · subst hx0
    exact zero w
  · obtain ⟨hlow, hk⟩ := Lib.lowest_bit 64 x hx0 hx
    obtain ⟨hi, htab⟩ := Lib.deBruijn64_at _ hk
    have hcell := hT _ hi
    rw [htab] at hcell
    exact core x _ _ w (by simp; omega) (tz64_key x _ hx hx0 hlow) hi hk hcell
theorem c20 (x : Int) (w : World) (hT : TabAt 0 Lib.deBruijn64tab w) :
    Calls Tryd.prog 20 #[.int .i64 x] w fun e w' => e = .returned (.int .i64 (Lib.ctz 64 (IntKind.u64.wrap x).toNat)) ∧ w' = w := by
  have H : Hid (∀ w, TabAt 0 Lib.deBruijn64tab w → Calls Tryd.prog 23 #[.int .u64 (IntKind.u64.wrap x)] w fun e w' => e = .returned (.int .i64 (Lib.ctz 64 (IntKind.u64.wrap x).toNat)) ∧ w' = w) := Lib.hid (fun w hT => by
    obtain ⟨n, hn⟩ : ∃ n : Nat, IntKind.u64.wrap x = (n : Int) := ⟨(IntKind.u64.wrap x).toNat, by rw [wu64m]; omega⟩
    rw [hn]
    exact tz n (by rw [wu64m] at hn; omega) w hT)
  have HT := Lib.hid hT
  clear hT
  go_enter Tryd.func20, Tryd.ntmps20
  go_wp2_with (go_at_call 23; refine (H.out _ HT.out).mono ?_; rintro e w' ⟨rfl, rfl⟩)
  go_ret
  exact ⟨rfl, rfl⟩
/-- the complement, as the walk spells it. -/
def nti (n : Int) : Int := Go.bits .xor .i64 (-1) n
def ntu (n : Int) : Int := Go.bits .xor .u64 18446744073709551615 n
theorem uni (n : Int) : Op.unary .xor (.int .i64 n) = pure (.int .i64 (nti n)) := by
  show Op.intBits .xor .i64 (if IntKind.i64.signed then -1 else IntKind.i64.max) n = _
  rw [show (if IntKind.i64.signed then -1 else IntKind.i64.max) = (-1 : Int) from by decide +kernel]
  rfl
theorem unu (n : Int) : Op.unary .xor (.int .u64 n) = pure (.int .u64 (ntu n)) := by
  show Op.intBits .xor .u64 (if IntKind.u64.signed then -1 else IntKind.u64.max) n = _
  rw [show (if IntKind.u64.signed then -1 else IntKind.u64.max) = (18446744073709551615 : Int) from by decide +kernel]
  rfl
theorem ntu_any (x : Int) : ntu x = 18446744073709551615 - x % 18446744073709551616 := by
  unfold ntu
  rw [bits_u64]
  simp only []
  have e : (BitVec.ofInt 64 18446744073709551615 ^^^ BitVec.ofInt 64 x) = ~~~ (BitVec.ofInt 64 x) := by
    rw [show BitVec.ofInt 64 18446744073709551615 = BitVec.allOnes 64 from by decide, BitVec.allOnes_xor]
  rw [e, BitVec.toNat_not, BitVec.toNat_ofInt]
  omega
theorem nti_u (x : Int) : IntKind.u64.wrap (nti x) = 18446744073709551615 - x % 18446744073709551616 := by
  unfold nti
  rw [bits_i64]
  simp only []
  have e : (BitVec.ofInt 64 (-1) ^^^ BitVec.ofInt 64 x) = ~~~ (BitVec.ofInt 64 x) := by
    rw [show BitVec.ofInt 64 (-1) = BitVec.allOnes 64 from by decide, BitVec.allOnes_xor]
  rw [e, wrap_u64, BitVec.ofInt_toInt, BitVec.toNat_not, BitVec.toNat_ofInt]
  omega
def nto (x : Int) : Nat := Lib.ctz 64 (18446744073709551615 - x % 18446744073709551616).toNat
theorem c18 (x : Int) (w : World) (hT : TabAt 0 Lib.deBruijn64tab w) :
    Calls Tryd.prog 18 #[.int .i64 x] w fun e w' => e = .returned (.int .i64 (nto x)) ∧ w' = w := by
  have hun := uni
  have H : Hid (∀ w, TabAt 0 Lib.deBruijn64tab w → Calls Tryd.prog 20 #[.int .i64 (nti x)] w fun e w' => e = .returned (.int .i64 (nto x)) ∧ w' = w) := Lib.hid (fun w hT => by
    have := c20 (nti x) w hT
    rw [nti_u] at this
    exact this)
  have HT := Lib.hid hT
  clear hT
  go_enter Tryd.func18, Tryd.ntmps18
  go_wp2_with (go_at_call 20; refine (H.out _ HT.out).mono ?_; rintro e w' ⟨rfl, rfl⟩)
  go_ret
  exact ⟨rfl, rfl⟩
theorem c13 (x : Int) (w : World) (hT : TabAt 0 Lib.deBruijn64tab w) :
    Calls Tryd.prog 13 #[.int .i64 x] w fun e w' => e = .returned (.int .i64 (nto x)) ∧ w' = w := by
  have HT := Lib.hid hT
  clear hT
  go_enter Tryd.func13, Tryd.ntmps13
  go_wp2_with (go_at_call 18; refine (c18 _ _ HT.out).mono ?_; rintro e w' ⟨rfl, rfl⟩)
  go_ret
  exact ⟨rfl, rfl⟩
theorem c6 (x : Int) (w : World) (hT : TabAt 0 Lib.deBruijn64tab w) :
    Calls Tryd.prog 6 #[.int .i64 x] w fun e w' => e = .returned (.int .i64 (nto x)) ∧ w' = w := by
  have HT := Lib.hid hT
  clear hT
  go_enter Tryd.func6, Tryd.ntmps6
  go_wp2_with (go_at_call 13; refine (c13 _ _ HT.out).mono ?_; rintro e w' ⟨rfl, rfl⟩)
  go_ret
  exact ⟨rfl, rfl⟩
end Go.Proofs.YtfnhbjpflpbebaaDoor.Tz
