/- FnZerosOfOne: a power of 2 has its place as the number of zeros below it, and the rest above it, for every int, over the table that the library lays; no other condition. The walk of the law. -/
import Derived.Test.YtfnhbjpflpbebaaDoorTz
import Derived.Test.YtfnhbjpflpbebaaDoorShelf
import Derived.Test.YtfnhbjpflpbebaaDoorPFnBFMaskSoundx1
namespace Go.Proofs.YtfnhbjpflpbebaaDoor.Zoo
open Go.RowKit Go.Proofs.YtfnhbjpflpbebaaDoorW.PrintWords Go.Proofs.YtfnhbjpflpbebaaDoorW.PrintLast Go.Proofs.YtfnhbjpflpbebaaDoorW.PrintMore Go.Proofs.YtfnhbjpflpbebaaDoor.Kit Go.Proofs.YtfnhbjpflpbebaaDoor.Tz Go.Proofs.YtfnhbjpflpbebaaDoor.PFnBFMaskSound
def tzv (x : Int) : Int := (Lib.ctz 64 (IntKind.u64.wrap x).toNat : Int)
def lzv (x : Int) : Int := 64 - (Lib.bitLen (IntKind.u64.wrap x).toNat : Int)
theorem c16 (x : Int) (w : World) (hT : TabAt 0 Lib.deBruijn64tab w) : Calls Tryd.prog 16 #[.int .i64 x] w fun e w' => e = .returned (.int .i64 (tzv x)) ∧ w' = w := by
  have HT := Lib.hid hT
  clear hT
  go_enter Tryd.func16, Tryd.ntmps16
  go_wp2_with (go_at_call 20; refine (c20 x _ HT.out).mono ?_; rintro e w' ⟨rfl, rfl⟩)
  go_ret
  exact ⟨rfl, rfl⟩
theorem c11 (x : Int) (w : World) (hT : TabAt 0 Lib.deBruijn64tab w) : Calls Tryd.prog 11 #[.int .i64 x] w fun e w' => e = .returned (.int .i64 (tzv x)) ∧ w' = w := by
  have HT := Lib.hid hT
  clear hT
  go_enter Tryd.func11, Tryd.ntmps11
  go_wp2_with (go_at_call 16; refine (c16 x _ HT.out).mono ?_; rintro e w' ⟨rfl, rfl⟩)
  go_ret
  exact ⟨rfl, rfl⟩
theorem c21 (v : Int) (w : World) : Calls Tryd.prog 21 #[.int .i64 v] w fun e w' => e = .returned (.int .i64 (lzv v)) ∧ w' = w := by
  have h0 : 0 ≤ IntKind.u64.wrap v := by rw [wu64m]; omega
  have h1 : IntKind.u64.wrap v ≤ 18446744073709551615 := by rw [wu64m]; omega
  have H0 := Lib.hid h0
  have H1 := Lib.hid h1
  clear h0 h1
  go_enter Tryd.func21, Tryd.ntmps21
  go_wp2_with (go_at_call 24; refine (Tryd.bits_LeadingZeros64 _ _ H0.out H1.out).mono ?_; rintro e w' ⟨rfl, rfl⟩)
  go_ret
  exact ⟨rfl, rfl⟩
theorem c17 (v : Int) (w : World) : Calls Tryd.prog 17 #[.int .i64 v] w fun e w' => e = .returned (.int .i64 (lzv v)) ∧ w' = w := by
  go_enter Tryd.func17, Tryd.ntmps17
  go_wp2_with (go_at_call 21; refine (c21 _ _).mono ?_; rintro e w' ⟨rfl, rfl⟩)
  go_ret
  exact ⟨rfl, rfl⟩
theorem c12 (v : Int) (w : World) : Calls Tryd.prog 12 #[.int .i64 v] w fun e w' => e = .returned (.int .i64 (lzv v)) ∧ w' = w := by
  go_enter Tryd.func12, Tryd.ntmps12
  go_wp2_with (go_at_call 17; refine (c17 _ _).mono ?_; rintro e w' ⟨rfl, rfl⟩)
  go_ret
  exact ⟨rfl, rfl⟩
def okAt (n : Nat) : Bool := (tzv (wrap64 (IntKind.u64.wrap (2 ^ n))) == (n : Int)) && (lzv (wrap64 (IntKind.u64.wrap (2 ^ n))) == 63 - (n : Int))
theorem all_ok : (List.range 64).all okAt = true := by decide +kernel
theorem ok_any (n : Nat) (h : n < 64) : tzv (wrap64 (IntKind.u64.wrap (2 ^ n))) = n ∧ lzv (wrap64 (IntKind.u64.wrap (2 ^ n))) = 63 - (n : Int) := by
  have := List.all_eq_true.1 all_ok n (by simpa using h)
  unfold okAt at this
  simp only [Bool.and_eq_true, beq_iff_eq] at this
  exact this
theorem law (a : Int) (W : World) (hT : TabAt 0 Lib.deBruijn64tab W) (_ : (Lit.int .i64 a).wf = true) : Calls Tryd.prog 5 #[.int .i64 a] W fun e W' => e = .returned (.bool true) ∧ Below W.heap.size W W' := by
  have r : laws_rwAt.f a 64 = some (a % 64) := by
    unfold laws_rwAt.f; rw [if_neg (by decide), rw_at a _ (by decide) (by decide)]
  obtain ⟨n, hn⟩ : ∃ n : Nat, a % 64 = (n : Int) := ⟨(a % 64).toNat, by omega⟩
  have hl : n < 64 := by omega
  rw [hn] at r
  obtain ⟨h1, h2⟩ := ok_any n hl
  have R := Lib.hid r
  have H1 := Lib.hid h1
  have H2 := Lib.hid h2
  have hl' : (n : Int) < 64 := by omega
  have HT := Lib.hid hT
  clear r h1 h2 hn hl hT
  go_enter Tryd.func5, Tryd.ntmps5
  go_wp2_with (first
    | (go_at_call 8; refine (laws_rwAt.calls _ _ _ _ R.out).mono ?_; rintro e w' ⟨rfl, ⟨n1, rfl⟩⟩)
    | (go_at_call 11; refine (c11 _ _ ?hT).mono ?_; (case hT => exact HT.out); rintro e w' ⟨rfl, rfl⟩; rw [H1.out])
    | (go_at_call 12; refine (c12 _ _).mono ?_; rintro e w' ⟨rfl, rfl⟩; rw [H2.out]))
  go_ret
  exact ⟨by simp, by repeat (first | exact Below.refl _ _ | refine pw_below_drewN ?_ _)⟩
end Go.Proofs.YtfnhbjpflpbebaaDoor.Zoo
