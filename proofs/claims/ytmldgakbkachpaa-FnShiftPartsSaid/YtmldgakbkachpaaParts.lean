/- FnShiftParts: how far to shift, and the beginning of the mask, come back from their value, for all numbers; no condition. The walks. -/
import Derived.Test.YtmldgakbkachpaaPFnShiftPartsx1
import Derived.Test.YtmldgakbkachpaaKit
import Derived.Lib.Hide
namespace Go.Proofs.Ytmldgakbkachpaa.Parts
open Go.RowKit Go.Proofs.YtmldgakbkachpaaW.PrintWords Go.Proofs.YtmldgakbkachpaaW.PrintLast Go.Proofs.Ytmldgakbkachpaa.Kit Go.Proofs.Ytmldgakbkachpaa.PFnShiftParts
theorem or_add (x y : Int) (i : Nat) (hx0 : 0 ≤ x) (hx : x % 2 ^ i = 0) (hx1 : x < 9223372036854775808) (hy0 : 0 ≤ y) (hy : y < 2 ^ i) (hy1 : y < 9223372036854775808) : Go.bits .or .i64 x y = x + y :=
  bits_join .i64 63 (by decide) (fun n h0 h1 => by rw [wi64m, w64 (by omega) (by simp at h1; omega)]) i x y hx0 hx (by simpa using hx1) hy0 hy (by simpa using hy1)
theorem parts (a b c : Int) (h1 : 0 ≤ a) (h2 : a < 64) (h3 : 0 ≤ b) (h4 : b < 64) (h5 : 0 ≤ c) (h6 : c < 64) :
    wrap32 (Go.bits .or .i64 (Go.bits .or .i64 (a * 65536) (b * 256)) c) = a * 65536 + b * 256 + c := by
  rw [or_add (a * 65536) (b * 256) 16 (by omega) (by simp <;> omega) (by omega) (by omega) (by simp <;> omega) (by omega), or_add (a * 65536 + b * 256) c 8 (by omega) (by simp <;> omega) (by omega) (by omega) (by simp <;> omega) (by omega)]
  unfold wrap32; omega
theorem c34 (a b c d : Int) (w : World) (h1 : 0 ≤ a) (h2 : a < d) (h3 : 0 ≤ b) (h4 : b < d) (h5 : 0 ≤ c) (h6 : c < d) (h7 : d ≤ 64) :
    Calls Try.prog 34 #[.int .i64 a, .int .i64 b, .int .i64 c, .int .i64 d] w fun e w' => e = .returned (.int .i32 (a * 65536 + b * 256 + c)) ∧ w' = w := by
  have H := Lib.hid (parts a b c h1 (by omega) h3 (by omega) h5 (by omega))
  go_enter Try.func34, Try.ntmps34
  go_wp2
  go_ret
  exact ⟨by rw [← H.out]; rfl, rfl⟩
theorem c26 (a b c d : Int) (w : World) (h1 : 0 ≤ a) (h2 : a < d) (h3 : 0 ≤ b) (h4 : b < d) (h5 : 0 ≤ c) (h6 : c < d) (h7 : d ≤ 64) :
    Calls Try.prog 26 #[.int .i64 a, .int .i64 b, .int .i64 c, .int .i64 d] w fun e w' => e = .returned (.int .i32 (a * 65536 + b * 256 + c)) ∧ w' = w := by
  go_enter Try.func26, Try.ntmps26
  go_wp2_with (go_at_call 34; refine (c34 _ _ _ _ _ h1 h2 h3 h4 h5 h6 h7).mono ?_; rintro e w' ⟨rfl, rfl⟩)
  go_ret
  exact ⟨rfl, rfl⟩
theorem c16 (a b c d : Int) (w : World) (h1 : 0 ≤ a) (h2 : a < d) (h3 : 0 ≤ b) (h4 : b < d) (h5 : 0 ≤ c) (h6 : c < d) (h7 : d ≤ 64) :
    Calls Try.prog 16 #[.int .i64 a, .int .i64 b, .int .i64 c, .int .i64 d] w fun e w' => e = .returned (.int .i32 (a * 65536 + b * 256 + c)) ∧ w' = w := by
  go_enter Try.func16, Try.ntmps16
  go_wp2_with (go_at_call 26; refine (c26 _ _ _ _ _ h1 h2 h3 h4 h5 h6 h7).mono ?_; rintro e w' ⟨rfl, rfl⟩)
  go_ret
  exact ⟨rfl, rfl⟩
set_option maxHeartbeats 1000000 in
theorem law_32 (s p q : Int) (W : World) : Calls Try.prog 6 #[.int .i64 s, .int .i64 p, .int .i64 q, .bool false] W fun e W' => e = .returned (.bool true) ∧ Below W.heap.size W W' := by
  have a1 := Int.emod_nonneg s (b := 32) (by omega)
  have a2 := Int.emod_lt_of_pos s (b := 32) (by omega)
  have b1 := Int.emod_nonneg p (b := 32) (by omega)
  have b2 := Int.emod_lt_of_pos p (b := 32) (by omega)
  have d1 := Int.emod_nonneg q (b := 32) (by omega)
  have d2 := Int.emod_lt_of_pos q (b := 32) (by omega)
  have r : ∀ x, laws_rwAt.f x 32 = some (x % 32) := by
    intro x; unfold laws_rwAt.f; rw [if_neg (by decide), rw_at x _ (by decide) (by decide)]
  have f1 : impl_Shiftsh.f (s % 32 * 65536 + p % 32 * 256 + q % 32) = some (s % 32) := by
    unfold impl_Shiftsh.f ssarewrite_GetPPC64Shiftsh.f
    rw [Option.bind_some]; refine congrArg some ?_
    have : IntKind.i8.wrap ((s % 32 * 65536 + p % 32 * 256 + q % 32) / 65536) = s % 32 := by simp [IntKind.wrap, IntKind.bits, IntKind.signed]; omega
    rw [this, w64 (by omega) (by omega)]
  have f2 : impl_Shiftmb.f (s % 32 * 65536 + p % 32 * 256 + q % 32) = some (p % 32) := by
    unfold impl_Shiftmb.f ssarewrite_GetPPC64Shiftmb.f
    rw [Option.bind_some]; refine congrArg some ?_
    have : IntKind.i8.wrap ((s % 32 * 65536 + p % 32 * 256 + q % 32) / 256) = p % 32 := by simp [IntKind.wrap, IntKind.bits, IntKind.signed]; split <;> omega
    rw [this, w64 (by omega) (by omega)]
  have F1 := Lib.hid f1
  have F2 := Lib.hid f2
  have R := Lib.hid r
  have rs := Lib.hid (r s)
  have rp := Lib.hid (r p)
  have rq := Lib.hid (r q)
  clear f1 f2 r
  generalize s % 32 = s' at *
  generalize p % 32 = p' at *
  generalize q % 32 = q' at *
  go_enter Try.func6, Try.ntmps6
  go_wp2_with fail
  refine (laws_rwAt.calls _ _ _ _ rs.out).mono ?_
  rintro e w' ⟨rfl, ⟨n1, rfl⟩⟩
  go_wp2_with fail
  refine (laws_rwAt.calls _ _ _ _ rp.out).mono ?_
  rintro e w' ⟨rfl, ⟨n2, rfl⟩⟩
  go_wp2_with fail
  refine (laws_rwAt.calls _ _ _ _ rq.out).mono ?_
  rintro e w' ⟨rfl, ⟨n3, rfl⟩⟩
  go_wp2_with (first
    | (go_at_call 16; refine (c16 _ _ _ _ _ a1 a2 b1 b2 d1 d2 (by decide)).mono ?_; rintro e w' ⟨rfl, rfl⟩)
    | (go_at_call 17; refine (impl_Shiftsh.calls _ _ _ F1.out).mono ?_; rintro e w' ⟨rfl, ⟨n4, rfl⟩⟩)
    | (go_at_call 18; refine (impl_Shiftmb.calls _ _ _ F2.out).mono ?_; rintro e w' ⟨rfl, ⟨n5, rfl⟩⟩))
  go_ret
  exact ⟨by simp, by repeat (first | exact Below.refl _ _ | refine pw_below_drewN ?_ _)⟩
set_option maxHeartbeats 1000000 in
theorem law_64 (s p q : Int) (W : World) : Calls Try.prog 6 #[.int .i64 s, .int .i64 p, .int .i64 q, .bool true] W fun e W' => e = .returned (.bool true) ∧ Below W.heap.size W W' := by
  have a1 := Int.emod_nonneg s (b := 64) (by omega)
  have a2 := Int.emod_lt_of_pos s (b := 64) (by omega)
  have b1 := Int.emod_nonneg p (b := 64) (by omega)
  have b2 := Int.emod_lt_of_pos p (b := 64) (by omega)
  have d1 := Int.emod_nonneg q (b := 64) (by omega)
  have d2 := Int.emod_lt_of_pos q (b := 64) (by omega)
  have r : ∀ x, laws_rwAt.f x 64 = some (x % 64) := by
    intro x; unfold laws_rwAt.f; rw [if_neg (by decide), rw_at x _ (by decide) (by decide)]
  have f1 : impl_Shiftsh.f (s % 64 * 65536 + p % 64 * 256 + q % 64) = some (s % 64) := by
    unfold impl_Shiftsh.f ssarewrite_GetPPC64Shiftsh.f
    rw [Option.bind_some]; refine congrArg some ?_
    have : IntKind.i8.wrap ((s % 64 * 65536 + p % 64 * 256 + q % 64) / 65536) = s % 64 := by simp [IntKind.wrap, IntKind.bits, IntKind.signed]; omega
    rw [this, w64 (by omega) (by omega)]
  have f2 : impl_Shiftmb.f (s % 64 * 65536 + p % 64 * 256 + q % 64) = some (p % 64) := by
    unfold impl_Shiftmb.f ssarewrite_GetPPC64Shiftmb.f
    rw [Option.bind_some]; refine congrArg some ?_
    have : IntKind.i8.wrap ((s % 64 * 65536 + p % 64 * 256 + q % 64) / 256) = p % 64 := by simp [IntKind.wrap, IntKind.bits, IntKind.signed]; split <;> omega
    rw [this, w64 (by omega) (by omega)]
  have F1 := Lib.hid f1
  have F2 := Lib.hid f2
  have R := Lib.hid r
  have rs := Lib.hid (r s)
  have rp := Lib.hid (r p)
  have rq := Lib.hid (r q)
  clear f1 f2 r
  generalize s % 64 = s' at *
  generalize p % 64 = p' at *
  generalize q % 64 = q' at *
  go_enter Try.func6, Try.ntmps6
  go_wp2_with fail
  refine (laws_rwAt.calls _ _ _ _ rs.out).mono ?_
  rintro e w' ⟨rfl, ⟨n1, rfl⟩⟩
  go_wp2_with fail
  refine (laws_rwAt.calls _ _ _ _ rp.out).mono ?_
  rintro e w' ⟨rfl, ⟨n2, rfl⟩⟩
  go_wp2_with fail
  refine (laws_rwAt.calls _ _ _ _ rq.out).mono ?_
  rintro e w' ⟨rfl, ⟨n3, rfl⟩⟩
  go_wp2_with (first
    | (go_at_call 16; refine (c16 _ _ _ _ _ a1 a2 b1 b2 d1 d2 (by decide)).mono ?_; rintro e w' ⟨rfl, rfl⟩)
    | (go_at_call 17; refine (impl_Shiftsh.calls _ _ _ F1.out).mono ?_; rintro e w' ⟨rfl, ⟨n4, rfl⟩⟩)
    | (go_at_call 18; refine (impl_Shiftmb.calls _ _ _ F2.out).mono ?_; rintro e w' ⟨rfl, ⟨n5, rfl⟩⟩))
  go_ret
  exact ⟨by simp, by repeat (first | exact Below.refl _ _ | refine pw_below_drewN ?_ _)⟩
theorem walk (s p q : Int) (wide : Bool) (W : World) (_ : (Lit.int .i64 s).wf = true) (_ : (Lit.int .i64 p).wf = true) (_ : (Lit.int .i64 q).wf = true) :
    Calls Try.prog 6 #[.int .i64 s, .int .i64 p, .int .i64 q, .bool wide] W fun e W' => e = .returned (.bool true) ∧ Below W.heap.size W W' := by
  cases wide
  · exact law_32 s p q W
  · exact law_64 s p q W
end Go.Proofs.Ytmldgakbkachpaa.Parts
