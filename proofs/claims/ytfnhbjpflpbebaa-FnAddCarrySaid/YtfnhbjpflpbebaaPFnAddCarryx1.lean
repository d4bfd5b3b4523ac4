-- PRINTED BY print.sh 35421559b90ae4d0a3588c463048766b98c2df88dd9212a6774a882060cdf62d: not written by this session
import Derived.Test.YtfnhbjpflpbebaaPFnAddCarryx0
namespace Go.Proofs.Ytfnhbjpflpbebaa.PFnAddCarry
open Go.RowKit Go.Proofs.YtfnhbjpflpbebaaW.PrintWords Go.Proofs.YtfnhbjpflpbebaaW.PrintLast Go.Proofs.YtfnhbjpflpbebaaW.PrintMore
attribute [local go_sem] max2_int min2_int max_two min_two max_three min_three max_four min_four   -- for this text's walks alone
set_option linter.unusedVariables false
set_option linter.unusedSimpArgs false

-- NOT PRINTED: function 72 (bits_Add64)

-- NOT PRINTED: function 53 (ssarewrite_bitsAdd64)

-- NOT PRINTED: function 33 (ssarewrite_ZZBitsAdd64)

-- NOT PRINTED: function 10 (impl_BitsAdd64)

/-! ### ssarewrite_uaddOvf: function 54 -/
def ssarewrite_uaddOvf.f (a0 : Int) (a1 : Int) : Option (Bool) := some (decide ((IntKind.u64.wrap ((IntKind.u64.wrap (a0)) + (IntKind.u64.wrap (a1)))) < (IntKind.u64.wrap (a0))))
set_option maxHeartbeats 8000000 in
set_option maxRecDepth 100000 in
theorem ssarewrite_uaddOvf.calls (a0 : Int) (a1 : Int) (r : Bool) (w : World) (h : ssarewrite_uaddOvf.f a0 a1 = some r) :
    Calls Try.prog 54 #[.int .i64 a0, .int .i64 a1] w fun e w' => e = .returned (.bool r) ∧ Drawn0 w w' := by
  have H : (some (decide ((IntKind.u64.wrap ((IntKind.u64.wrap (a0)) + (IntKind.u64.wrap (a1)))) < (IntKind.u64.wrap (a0))))) = some r := h
  clear h
  obtain rfl := Option.some.inj H
  go_enter Try.func54, Try.ntmps54
  go_wp2
  go_ret
  exact ⟨by first | rfl | (simp; done) | (simp [*]; done), by repeat (first | exact Drawn0.refl _ | apply Drawn0.step)⟩

/-! ### ssarewrite_ZZUaddOvf: function 34 -/
def ssarewrite_ZZUaddOvf.f (a0 : Int) (a1 : Int) : Option (Bool) := (ssarewrite_uaddOvf.f a0 a1).bind fun t102 => (some t102)
set_option maxHeartbeats 8000000 in
set_option maxRecDepth 100000 in
theorem ssarewrite_ZZUaddOvf.calls (a0 : Int) (a1 : Int) (r : Bool) (w : World) (h : ssarewrite_ZZUaddOvf.f a0 a1 = some r) :
    Calls Try.prog 34 #[.int .i64 a0, .int .i64 a1] w fun e w' => e = .returned (.bool r) ∧ Drawn0 w w' := by
  have H : ((ssarewrite_uaddOvf.f a0 a1).bind fun t102 => (some t102)) = some r := h
  clear h
  replace H := Option.bind_eq_some_iff.mp H
  obtain ⟨t102, A30, H⟩ := H
  replace H : (some t102) = some r := H
  have A3 := Aside0.mk A30
  clear A30
  obtain rfl := Option.some.inj H
  go_enter Try.func34, Try.ntmps34
  go_wp2_with (first | ((with_reducible refine gate_callee (f := 54) rfl ?_); refine goesL_ (some 7) rfl rfl Try.func54 (by kernel_rfl) rfl #[.int .i64 a0, .int .i64 a1] rfl (by (try simp only [List.map_toArray, List.map_cons, List.map_nil]); first | done | rfl | (simp only [List.length_drop, List.length_take]; rfl)) ?_; (with_reducible refine (ssarewrite_uaddOvf.calls a0 a1 t102 _ A3.out).mono ?_); rintro e w' ⟨rfl, ⟨nd, rfl⟩⟩; refine ⟨_, rfl, ?_⟩))
  go_ret
  exact ⟨by first | rfl | (simp; done) | (simp [*]; done), by repeat (first | exact Drawn0.refl _ | apply Drawn0.step)⟩

/-! ### impl_UaddOvf: function 11 -/
def impl_UaddOvf.f (a0 : Int) (a1 : Int) : Option (Bool) := (ssarewrite_ZZUaddOvf.f a0 a1).bind fun t103 => (some t103)
set_option maxHeartbeats 8000000 in
set_option maxRecDepth 100000 in
theorem impl_UaddOvf.calls (a0 : Int) (a1 : Int) (r : Bool) (w : World) (h : impl_UaddOvf.f a0 a1 = some r) :
    Calls Try.prog 11 #[.int .i64 a0, .int .i64 a1] w fun e w' => e = .returned (.bool r) ∧ Drawn0 w w' := by
  have H : ((ssarewrite_ZZUaddOvf.f a0 a1).bind fun t103 => (some t103)) = some r := h
  clear h
  replace H := Option.bind_eq_some_iff.mp H
  obtain ⟨t103, A30, H⟩ := H
  replace H : (some t103) = some r := H
  have A3 := Aside0.mk A30
  clear A30
  obtain rfl := Option.some.inj H
  go_enter Try.func11, Try.ntmps11
  go_wp2_with (first | ((with_reducible refine gate_callee (f := 34) rfl ?_); refine goesL_ (some 7) rfl rfl Try.func34 (by kernel_rfl) rfl #[.int .i64 a0, .int .i64 a1] rfl (by (try simp only [List.map_toArray, List.map_cons, List.map_nil]); first | done | rfl | (simp only [List.length_drop, List.length_take]; rfl)) ?_; (with_reducible refine (ssarewrite_ZZUaddOvf.calls a0 a1 t103 _ A3.out).mono ?_); rintro e w' ⟨rfl, ⟨nd, rfl⟩⟩; refine ⟨_, rfl, ?_⟩))
  go_ret
  exact ⟨by first | rfl | (simp; done) | (simp [*]; done), by repeat (first | exact Drawn0.refl _ | apply Drawn0.step)⟩

-- NOT PRINTED: function 3 (laws_FnAddCarry)

end Go.Proofs.Ytfnhbjpflpbebaa.PFnAddCarry
