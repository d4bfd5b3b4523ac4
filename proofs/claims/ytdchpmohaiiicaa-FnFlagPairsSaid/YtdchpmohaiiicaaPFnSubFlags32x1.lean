-- PRINTED BY print.sh 35421559b90ae4d0a3588c463048766b98c2df88dd9212a6774a882060cdf62d: not written by this session
import Derived.Test.YtdchpmohaiiicaaPFnSubFlags32x0
namespace Go.Proofs.Ytdchpmohaiiicaa.PFnSubFlags32
open Go.RowKit Go.Proofs.YtdchpmohaiiicaaW.PrintWords Go.Proofs.YtdchpmohaiiicaaW.PrintLast Go.Proofs.YtdchpmohaiiicaaW.PrintMore
attribute [local go_sem] max2_int min2_int max_two min_two max_three min_three max_four min_four   -- for this text's walks alone
set_option linter.unusedVariables false
set_option linter.unusedSimpArgs false

/-! ### ssarewrite_flagConstant_N: function 17 -/
def ssarewrite_flagConstant_N.f (a0 : Int) : Option (Bool) := some ((Go.bits .and .u8 a0 1) != 0)
set_option maxHeartbeats 8000000 in
set_option maxRecDepth 100000 in
theorem ssarewrite_flagConstant_N.calls (a0 : Int) (r : Bool) (w : World) (h : ssarewrite_flagConstant_N.f a0 = some r) :
    Calls Try.prog 17 #[.int .u8 a0] w fun e w' => e = .returned (.bool r) ∧ Drawn0 w w' := by
  have H : (some ((Go.bits .and .u8 a0 1) != 0)) = some r := h
  clear h
  obtain rfl := Option.some.inj H
  go_enter Try.func17, Try.ntmps17
  go_wp2
  go_ret
  exact ⟨by first | rfl | (simp; done) | (simp [*]; done), by repeat (first | exact Drawn0.refl _ | apply Drawn0.step)⟩

/-! ### ssarewrite_flagConstant_Z: function 18 -/
def ssarewrite_flagConstant_Z.f (a0 : Int) : Option (Bool) := some ((Go.bits .and .u8 a0 2) != 0)
set_option maxHeartbeats 8000000 in
set_option maxRecDepth 100000 in
theorem ssarewrite_flagConstant_Z.calls (a0 : Int) (r : Bool) (w : World) (h : ssarewrite_flagConstant_Z.f a0 = some r) :
    Calls Try.prog 18 #[.int .u8 a0] w fun e w' => e = .returned (.bool r) ∧ Drawn0 w w' := by
  have H : (some ((Go.bits .and .u8 a0 2) != 0)) = some r := h
  clear h
  obtain rfl := Option.some.inj H
  go_enter Try.func18, Try.ntmps18
  go_wp2
  go_ret
  exact ⟨by first | rfl | (simp; done) | (simp [*]; done), by repeat (first | exact Drawn0.refl _ | apply Drawn0.step)⟩

/-! ### ssarewrite_flagConstant_C: function 19 -/
def ssarewrite_flagConstant_C.f (a0 : Int) : Option (Bool) := some ((Go.bits .and .u8 a0 4) != 0)
set_option maxHeartbeats 8000000 in
set_option maxRecDepth 100000 in
theorem ssarewrite_flagConstant_C.calls (a0 : Int) (r : Bool) (w : World) (h : ssarewrite_flagConstant_C.f a0 = some r) :
    Calls Try.prog 19 #[.int .u8 a0] w fun e w' => e = .returned (.bool r) ∧ Drawn0 w w' := by
  have H : (some ((Go.bits .and .u8 a0 4) != 0)) = some r := h
  clear h
  obtain rfl := Option.some.inj H
  go_enter Try.func19, Try.ntmps19
  go_wp2
  go_ret
  exact ⟨by first | rfl | (simp; done) | (simp [*]; done), by repeat (first | exact Drawn0.refl _ | apply Drawn0.step)⟩

/-! ### ssarewrite_flagConstant_V: function 20 -/
def ssarewrite_flagConstant_V.f (a0 : Int) : Option (Bool) := some ((Go.bits .and .u8 a0 8) != 0)
set_option maxHeartbeats 8000000 in
set_option maxRecDepth 100000 in
theorem ssarewrite_flagConstant_V.calls (a0 : Int) (r : Bool) (w : World) (h : ssarewrite_flagConstant_V.f a0 = some r) :
    Calls Try.prog 20 #[.int .u8 a0] w fun e w' => e = .returned (.bool r) ∧ Drawn0 w w' := by
  have H : (some ((Go.bits .and .u8 a0 8) != 0)) = some r := h
  clear h
  obtain rfl := Option.some.inj H
  go_enter Try.func20, Try.ntmps20
  go_wp2
  go_ret
  exact ⟨by first | rfl | (simp; done) | (simp [*]; done), by repeat (first | exact Drawn0.refl _ | apply Drawn0.step)⟩

/-! ### ssarewrite_flagConstant_eq: function 39 -/
def ssarewrite_flagConstant_eq.f (a0 : Int) : Option (Bool) := (ssarewrite_flagConstant_Z.f a0).bind fun t101 => (some t101)
set_option maxHeartbeats 8000000 in
set_option maxRecDepth 100000 in
theorem ssarewrite_flagConstant_eq.calls (a0 : Int) (r : Bool) (w : World) (h : ssarewrite_flagConstant_eq.f a0 = some r) :
    Calls Try.prog 39 #[.int .u8 a0] w fun e w' => e = .returned (.bool r) ∧ Drawn0 w w' := by
  have H : ((ssarewrite_flagConstant_Z.f a0).bind fun t101 => (some t101)) = some r := h
  clear h
  replace H := Option.bind_eq_some_iff.mp H
  obtain ⟨t101, A20, H⟩ := H
  replace H : (some t101) = some r := H
  have A2 := Aside0.mk A20
  clear A20
  obtain rfl := Option.some.inj H
  go_enter Try.func39, Try.ntmps39
  go_wp2_with (first | ((with_reducible refine gate_callee (f := 18) rfl ?_); refine goesL_ (some 4) rfl rfl Try.func18 (by kernel_rfl) rfl #[.int .u8 a0] rfl (by (try simp only [List.map_toArray, List.map_cons, List.map_nil]); first | done | rfl | (simp only [List.length_drop, List.length_take]; rfl)) ?_; (with_reducible refine (ssarewrite_flagConstant_Z.calls a0 t101 _ A2.out).mono ?_); rintro e w' ⟨rfl, ⟨nd, rfl⟩⟩; refine ⟨_, rfl, ?_⟩))
  go_ret
  exact ⟨by first | rfl | (simp; done) | (simp [*]; done), by repeat (first | exact Drawn0.refl _ | apply Drawn0.step)⟩

/-! ### ssarewrite_flagConstant_Eq: function 21 -/
def ssarewrite_flagConstant_Eq.f (a0 : Int) : Option (Bool) := (ssarewrite_flagConstant_eq.f a0).bind fun t102 => (some t102)
set_option maxHeartbeats 8000000 in
set_option maxRecDepth 100000 in
theorem ssarewrite_flagConstant_Eq.calls (a0 : Int) (r : Bool) (w : World) (h : ssarewrite_flagConstant_Eq.f a0 = some r) :
    Calls Try.prog 21 #[.int .u8 a0] w fun e w' => e = .returned (.bool r) ∧ Drawn0 w w' := by
  have H : ((ssarewrite_flagConstant_eq.f a0).bind fun t102 => (some t102)) = some r := h
  clear h
  replace H := Option.bind_eq_some_iff.mp H
  obtain ⟨t102, A20, H⟩ := H
  replace H : (some t102) = some r := H
  have A2 := Aside0.mk A20
  clear A20
  obtain rfl := Option.some.inj H
  go_enter Try.func21, Try.ntmps21
  go_wp2_with (first | ((with_reducible refine gate_callee (f := 39) rfl ?_); refine goesL_ (some 4) rfl rfl Try.func39 (by kernel_rfl) rfl #[.int .u8 a0] rfl (by (try simp only [List.map_toArray, List.map_cons, List.map_nil]); first | done | rfl | (simp only [List.length_drop, List.length_take]; rfl)) ?_; (with_reducible refine (ssarewrite_flagConstant_eq.calls a0 t102 _ A2.out).mono ?_); rintro e w' ⟨rfl, ⟨nd, rfl⟩⟩; refine ⟨_, rfl, ?_⟩))
  go_ret
  exact ⟨by first | rfl | (simp; done) | (simp [*]; done), by repeat (first | exact Drawn0.refl _ | apply Drawn0.step)⟩

/-! ### ssarewrite_flagConstant_ne: function 40 -/
def ssarewrite_flagConstant_ne.f (a0 : Int) : Option (Bool) := (ssarewrite_flagConstant_Z.f a0).bind fun t103 => (some (!t103))
set_option maxHeartbeats 8000000 in
set_option maxRecDepth 100000 in
theorem ssarewrite_flagConstant_ne.calls (a0 : Int) (r : Bool) (w : World) (h : ssarewrite_flagConstant_ne.f a0 = some r) :
    Calls Try.prog 40 #[.int .u8 a0] w fun e w' => e = .returned (.bool r) ∧ Drawn0 w w' := by
  have H : ((ssarewrite_flagConstant_Z.f a0).bind fun t103 => (some (!t103))) = some r := h
  clear h
  replace H := Option.bind_eq_some_iff.mp H
  obtain ⟨t103, A20, H⟩ := H
  replace H : (some (!t103)) = some r := H
  have A2 := Aside0.mk A20
  clear A20
  obtain rfl := Option.some.inj H
  go_enter Try.func40, Try.ntmps40
  go_wp2_with (first | ((with_reducible refine gate_callee (f := 18) rfl ?_); refine goesL_ (some 4) rfl rfl Try.func18 (by kernel_rfl) rfl #[.int .u8 a0] rfl (by (try simp only [List.map_toArray, List.map_cons, List.map_nil]); first | done | rfl | (simp only [List.length_drop, List.length_take]; rfl)) ?_; (with_reducible refine (ssarewrite_flagConstant_Z.calls a0 t103 _ A2.out).mono ?_); rintro e w' ⟨rfl, ⟨nd, rfl⟩⟩; refine ⟨_, rfl, ?_⟩))
  go_ret
  exact ⟨by first | rfl | (simp; done) | (simp [*]; done), by repeat (first | exact Drawn0.refl _ | apply Drawn0.step)⟩

/-! ### ssarewrite_flagConstant_Ne: function 22 -/
def ssarewrite_flagConstant_Ne.f (a0 : Int) : Option (Bool) := (ssarewrite_flagConstant_ne.f a0).bind fun t104 => (some t104)
set_option maxHeartbeats 8000000 in
set_option maxRecDepth 100000 in
theorem ssarewrite_flagConstant_Ne.calls (a0 : Int) (r : Bool) (w : World) (h : ssarewrite_flagConstant_Ne.f a0 = some r) :
    Calls Try.prog 22 #[.int .u8 a0] w fun e w' => e = .returned (.bool r) ∧ Drawn0 w w' := by
  have H : ((ssarewrite_flagConstant_ne.f a0).bind fun t104 => (some t104)) = some r := h
  clear h
  replace H := Option.bind_eq_some_iff.mp H
  obtain ⟨t104, A20, H⟩ := H
  replace H : (some t104) = some r := H
  have A2 := Aside0.mk A20
  clear A20
  obtain rfl := Option.some.inj H
  go_enter Try.func22, Try.ntmps22
  go_wp2_with (first | ((with_reducible refine gate_callee (f := 40) rfl ?_); refine goesL_ (some 4) rfl rfl Try.func40 (by kernel_rfl) rfl #[.int .u8 a0] rfl (by (try simp only [List.map_toArray, List.map_cons, List.map_nil]); first | done | rfl | (simp only [List.length_drop, List.length_take]; rfl)) ?_; (with_reducible refine (ssarewrite_flagConstant_ne.calls a0 t104 _ A2.out).mono ?_); rintro e w' ⟨rfl, ⟨nd, rfl⟩⟩; refine ⟨_, rfl, ?_⟩))
  go_ret
  exact ⟨by first | rfl | (simp; done) | (simp [*]; done), by repeat (first | exact Drawn0.refl _ | apply Drawn0.step)⟩

/-! ### ssarewrite_flagConstant_lt: function 41 -/
def ssarewrite_flagConstant_lt.f (a0 : Int) : Option (Bool) := (ssarewrite_flagConstant_N.f a0).bind fun t105 => ((ssarewrite_flagConstant_V.f a0).bind fun t106 => (some (t105 != t106)))
set_option maxHeartbeats 8000000 in
set_option maxRecDepth 100000 in
theorem ssarewrite_flagConstant_lt.calls (a0 : Int) (r : Bool) (w : World) (h : ssarewrite_flagConstant_lt.f a0 = some r) :
    Calls Try.prog 41 #[.int .u8 a0] w fun e w' => e = .returned (.bool r) ∧ Drawn0 w w' := by
  have H : ((ssarewrite_flagConstant_N.f a0).bind fun t105 => ((ssarewrite_flagConstant_V.f a0).bind fun t106 => (some (t105 != t106)))) = some r := h
  clear h
  replace H := Option.bind_eq_some_iff.mp H
  obtain ⟨t105, A20, H⟩ := H
  replace H : ((ssarewrite_flagConstant_V.f a0).bind fun t106 => (some (t105 != t106))) = some r := H
  have A2 := Aside0.mk A20
  clear A20
  replace H := Option.bind_eq_some_iff.mp H
  obtain ⟨t106, A30, H⟩ := H
  replace H : (some (t105 != t106)) = some r := H
  have A3 := Aside0.mk A30
  clear A30
  obtain rfl := Option.some.inj H
  go_enter Try.func41, Try.ntmps41
  go_wp2_with (first | ((with_reducible refine gate_callee (f := 17) rfl ?_); refine goesL_ (some 4) rfl rfl Try.func17 (by kernel_rfl) rfl #[.int .u8 a0] rfl (by (try simp only [List.map_toArray, List.map_cons, List.map_nil]); first | done | rfl | (simp only [List.length_drop, List.length_take]; rfl)) ?_; (with_reducible refine (ssarewrite_flagConstant_N.calls a0 t105 _ A2.out).mono ?_); rintro e w' ⟨rfl, ⟨nd, rfl⟩⟩; refine ⟨_, rfl, ?_⟩) | ((with_reducible refine gate_callee (f := 20) rfl ?_); refine goesL_ (some 6) rfl rfl Try.func20 (by kernel_rfl) rfl #[.int .u8 a0] rfl (by (try simp only [List.map_toArray, List.map_cons, List.map_nil]); first | done | rfl | (simp only [List.length_drop, List.length_take]; rfl)) ?_; (with_reducible refine (ssarewrite_flagConstant_V.calls a0 t106 _ A3.out).mono ?_); rintro e w' ⟨rfl, ⟨nd, rfl⟩⟩; refine ⟨_, rfl, ?_⟩))
  go_ret
  exact ⟨by first | rfl | (simp; done) | (simp [*]; done), by repeat (first | exact Drawn0.refl _ | apply Drawn0.step)⟩

/-! ### ssarewrite_flagConstant_Lt: function 23 -/
def ssarewrite_flagConstant_Lt.f (a0 : Int) : Option (Bool) := (ssarewrite_flagConstant_lt.f a0).bind fun t107 => (some t107)
set_option maxHeartbeats 8000000 in
set_option maxRecDepth 100000 in
theorem ssarewrite_flagConstant_Lt.calls (a0 : Int) (r : Bool) (w : World) (h : ssarewrite_flagConstant_Lt.f a0 = some r) :
    Calls Try.prog 23 #[.int .u8 a0] w fun e w' => e = .returned (.bool r) ∧ Drawn0 w w' := by
  have H : ((ssarewrite_flagConstant_lt.f a0).bind fun t107 => (some t107)) = some r := h
  clear h
  replace H := Option.bind_eq_some_iff.mp H
  obtain ⟨t107, A20, H⟩ := H
  replace H : (some t107) = some r := H
  have A2 := Aside0.mk A20
  clear A20
  obtain rfl := Option.some.inj H
  go_enter Try.func23, Try.ntmps23
  go_wp2_with (first | ((with_reducible refine gate_callee (f := 41) rfl ?_); refine goesL_ (some 4) rfl rfl Try.func41 (by kernel_rfl) rfl #[.int .u8 a0] rfl (by (try simp only [List.map_toArray, List.map_cons, List.map_nil]); first | done | rfl | (simp only [List.length_drop, List.length_take]; rfl)) ?_; (with_reducible refine (ssarewrite_flagConstant_lt.calls a0 t107 _ A2.out).mono ?_); rintro e w' ⟨rfl, ⟨nd, rfl⟩⟩; refine ⟨_, rfl, ?_⟩))
  go_ret
  exact ⟨by first | rfl | (simp; done) | (simp [*]; done), by repeat (first | exact Drawn0.refl _ | apply Drawn0.step)⟩

/-! ### ssarewrite_flagConstant_le: function 42 -/
def ssarewrite_flagConstant_le.f (a0 : Int) : Option (Bool) := (ssarewrite_flagConstant_Z.f a0).bind fun t108 => (if t108 = true then (some true) else ((ssarewrite_flagConstant_lt.f a0).bind fun t109 => (some t109)))
set_option maxHeartbeats 8000000 in
set_option maxRecDepth 100000 in
theorem ssarewrite_flagConstant_le.calls (a0 : Int) (r : Bool) (w : World) (h : ssarewrite_flagConstant_le.f a0 = some r) :
    Calls Try.prog 42 #[.int .u8 a0] w fun e w' => e = .returned (.bool r) ∧ Drawn0 w w' := by
  have H : ((ssarewrite_flagConstant_Z.f a0).bind fun t108 => (if t108 = true then (some true) else ((ssarewrite_flagConstant_lt.f a0).bind fun t109 => (some t109)))) = some r := h
  clear h
  replace H := Option.bind_eq_some_iff.mp H
  obtain ⟨t108, A20, H⟩ := H
  replace H : (if t108 = true then (some true) else ((ssarewrite_flagConstant_lt.f a0).bind fun t109 => (some t109))) = some r := H
  have A2 := Aside0.mk A20
  clear A20
  by_cases c3 : t108 = true
  · subst c3
    have H1 : (some true) = some r := by rw [if_pos rfl] at H; exact H
    clear H
    have H := H1
    clear H1
    obtain rfl := Option.some.inj H
    go_enter Try.func42, Try.ntmps42
    go_wp2_with (first | ((with_reducible refine gate_callee (f := 18) rfl ?_); refine goesL_ (some 4) rfl rfl Try.func18 (by kernel_rfl) rfl #[.int .u8 a0] rfl (by (try simp only [List.map_toArray, List.map_cons, List.map_nil]); first | done | rfl | (simp only [List.length_drop, List.length_take]; rfl)) ?_; (with_reducible refine (ssarewrite_flagConstant_Z.calls a0 true _ A2.out).mono ?_); rintro e w' ⟨rfl, ⟨nd, rfl⟩⟩; refine ⟨_, rfl, ?_⟩))
    go_ret
    exact ⟨by first | rfl | (simp; done) | (simp [*]; done), by repeat (first | exact Drawn0.refl _ | apply Drawn0.step)⟩
  · replace c3 := Bool.eq_false_iff.mpr c3
    subst c3
    have H1 : ((ssarewrite_flagConstant_lt.f a0).bind fun t109 => (some t109)) = some r := by rw [if_neg (show ¬ (false = true) by decide)] at H; exact H
    clear H
    have H := H1
    clear H1
    replace H := Option.bind_eq_some_iff.mp H
    obtain ⟨t109, A40, H⟩ := H
    replace H : (some t109) = some r := H
    have A4 := Aside0.mk A40
    clear A40
    obtain rfl := Option.some.inj H
    go_enter Try.func42, Try.ntmps42
    go_wp2_with (first | ((with_reducible refine gate_callee (f := 18) rfl ?_); refine goesL_ (some 4) rfl rfl Try.func18 (by kernel_rfl) rfl #[.int .u8 a0] rfl (by (try simp only [List.map_toArray, List.map_cons, List.map_nil]); first | done | rfl | (simp only [List.length_drop, List.length_take]; rfl)) ?_; (with_reducible refine (ssarewrite_flagConstant_Z.calls a0 false _ A2.out).mono ?_); rintro e w' ⟨rfl, ⟨nd, rfl⟩⟩; refine ⟨_, rfl, ?_⟩) | (go_at_call 41; (with_reducible refine (ssarewrite_flagConstant_lt.calls a0 t109 _ A4.out).mono ?_); rintro e w' ⟨rfl, ⟨nd, rfl⟩⟩))
    go_ret
    exact ⟨by first | rfl | (simp; done) | (simp [*]; done), by repeat (first | exact Drawn0.refl _ | apply Drawn0.step)⟩

/-! ### ssarewrite_flagConstant_Le: function 24 -/
def ssarewrite_flagConstant_Le.f (a0 : Int) : Option (Bool) := (ssarewrite_flagConstant_le.f a0).bind fun t110 => (some t110)
set_option maxHeartbeats 8000000 in
set_option maxRecDepth 100000 in
theorem ssarewrite_flagConstant_Le.calls (a0 : Int) (r : Bool) (w : World) (h : ssarewrite_flagConstant_Le.f a0 = some r) :
    Calls Try.prog 24 #[.int .u8 a0] w fun e w' => e = .returned (.bool r) ∧ Drawn0 w w' := by
  have H : ((ssarewrite_flagConstant_le.f a0).bind fun t110 => (some t110)) = some r := h
  clear h
  replace H := Option.bind_eq_some_iff.mp H
  obtain ⟨t110, A20, H⟩ := H
  replace H : (some t110) = some r := H
  have A2 := Aside0.mk A20
  clear A20
  obtain rfl := Option.some.inj H
  go_enter Try.func24, Try.ntmps24
  go_wp2_with (first | ((with_reducible refine gate_callee (f := 42) rfl ?_); refine goesL_ (some 4) rfl rfl Try.func42 (by kernel_rfl) rfl #[.int .u8 a0] rfl (by (try simp only [List.map_toArray, List.map_cons, List.map_nil]); first | done | rfl | (simp only [List.length_drop, List.length_take]; rfl)) ?_; (with_reducible refine (ssarewrite_flagConstant_le.calls a0 t110 _ A2.out).mono ?_); rintro e w' ⟨rfl, ⟨nd, rfl⟩⟩; refine ⟨_, rfl, ?_⟩))
  go_ret
  exact ⟨by first | rfl | (simp; done) | (simp [*]; done), by repeat (first | exact Drawn0.refl _ | apply Drawn0.step)⟩

/-! ### ssarewrite_flagConstant_ge: function 44 -/
def ssarewrite_flagConstant_ge.f (a0 : Int) : Option (Bool) := (ssarewrite_flagConstant_N.f a0).bind fun t111 => ((ssarewrite_flagConstant_V.f a0).bind fun t112 => (some (t111 == t112)))
set_option maxHeartbeats 8000000 in
set_option maxRecDepth 100000 in
theorem ssarewrite_flagConstant_ge.calls (a0 : Int) (r : Bool) (w : World) (h : ssarewrite_flagConstant_ge.f a0 = some r) :
    Calls Try.prog 44 #[.int .u8 a0] w fun e w' => e = .returned (.bool r) ∧ Drawn0 w w' := by
  have H : ((ssarewrite_flagConstant_N.f a0).bind fun t111 => ((ssarewrite_flagConstant_V.f a0).bind fun t112 => (some (t111 == t112)))) = some r := h
  clear h
  replace H := Option.bind_eq_some_iff.mp H
  obtain ⟨t111, A20, H⟩ := H
  replace H : ((ssarewrite_flagConstant_V.f a0).bind fun t112 => (some (t111 == t112))) = some r := H
  have A2 := Aside0.mk A20
  clear A20
  replace H := Option.bind_eq_some_iff.mp H
  obtain ⟨t112, A30, H⟩ := H
  replace H : (some (t111 == t112)) = some r := H
  have A3 := Aside0.mk A30
  clear A30
  obtain rfl := Option.some.inj H
  go_enter Try.func44, Try.ntmps44
  go_wp2_with (first | ((with_reducible refine gate_callee (f := 17) rfl ?_); refine goesL_ (some 4) rfl rfl Try.func17 (by kernel_rfl) rfl #[.int .u8 a0] rfl (by (try simp only [List.map_toArray, List.map_cons, List.map_nil]); first | done | rfl | (simp only [List.length_drop, List.length_take]; rfl)) ?_; (with_reducible refine (ssarewrite_flagConstant_N.calls a0 t111 _ A2.out).mono ?_); rintro e w' ⟨rfl, ⟨nd, rfl⟩⟩; refine ⟨_, rfl, ?_⟩) | ((with_reducible refine gate_callee (f := 20) rfl ?_); refine goesL_ (some 6) rfl rfl Try.func20 (by kernel_rfl) rfl #[.int .u8 a0] rfl (by (try simp only [List.map_toArray, List.map_cons, List.map_nil]); first | done | rfl | (simp only [List.length_drop, List.length_take]; rfl)) ?_; (with_reducible refine (ssarewrite_flagConstant_V.calls a0 t112 _ A3.out).mono ?_); rintro e w' ⟨rfl, ⟨nd, rfl⟩⟩; refine ⟨_, rfl, ?_⟩))
  go_ret
  exact ⟨by first | rfl | (simp; done) | (simp [*]; done), by repeat (first | exact Drawn0.refl _ | apply Drawn0.step)⟩

/-! ### ssarewrite_flagConstant_gt: function 43 -/
def ssarewrite_flagConstant_gt.f (a0 : Int) : Option (Bool) := (ssarewrite_flagConstant_Z.f a0).bind fun t113 => (if t113 = true then (some false) else ((ssarewrite_flagConstant_ge.f a0).bind fun t114 => (some t114)))
set_option maxHeartbeats 8000000 in
set_option maxRecDepth 100000 in
theorem ssarewrite_flagConstant_gt.calls (a0 : Int) (r : Bool) (w : World) (h : ssarewrite_flagConstant_gt.f a0 = some r) :
    Calls Try.prog 43 #[.int .u8 a0] w fun e w' => e = .returned (.bool r) ∧ Drawn0 w w' := by
  have H : ((ssarewrite_flagConstant_Z.f a0).bind fun t113 => (if t113 = true then (some false) else ((ssarewrite_flagConstant_ge.f a0).bind fun t114 => (some t114)))) = some r := h
  clear h
  replace H := Option.bind_eq_some_iff.mp H
  obtain ⟨t113, A20, H⟩ := H
  replace H : (if t113 = true then (some false) else ((ssarewrite_flagConstant_ge.f a0).bind fun t114 => (some t114))) = some r := H
  have A2 := Aside0.mk A20
  clear A20
  by_cases c3 : t113 = true
  · subst c3
    have H1 : (some false) = some r := by rw [if_pos rfl] at H; exact H
    clear H
    have H := H1
    clear H1
    obtain rfl := Option.some.inj H
    go_enter Try.func43, Try.ntmps43
    go_wp2_with (first | ((with_reducible refine gate_callee (f := 18) rfl ?_); refine goesL_ (some 4) rfl rfl Try.func18 (by kernel_rfl) rfl #[.int .u8 a0] rfl (by (try simp only [List.map_toArray, List.map_cons, List.map_nil]); first | done | rfl | (simp only [List.length_drop, List.length_take]; rfl)) ?_; (with_reducible refine (ssarewrite_flagConstant_Z.calls a0 true _ A2.out).mono ?_); rintro e w' ⟨rfl, ⟨nd, rfl⟩⟩; refine ⟨_, rfl, ?_⟩))
    go_ret
    exact ⟨by first | rfl | (simp; done) | (simp [*]; done), by repeat (first | exact Drawn0.refl _ | apply Drawn0.step)⟩
  · replace c3 := Bool.eq_false_iff.mpr c3
    subst c3
    have H1 : ((ssarewrite_flagConstant_ge.f a0).bind fun t114 => (some t114)) = some r := by rw [if_neg (show ¬ (false = true) by decide)] at H; exact H
    clear H
    have H := H1
    clear H1
    replace H := Option.bind_eq_some_iff.mp H
    obtain ⟨t114, A40, H⟩ := H
    replace H : (some t114) = some r := H
    have A4 := Aside0.mk A40
    clear A40
    obtain rfl := Option.some.inj H
    go_enter Try.func43, Try.ntmps43
    go_wp2_with (first | ((with_reducible refine gate_callee (f := 18) rfl ?_); refine goesL_ (some 4) rfl rfl Try.func18 (by kernel_rfl) rfl #[.int .u8 a0] rfl (by (try simp only [List.map_toArray, List.map_cons, List.map_nil]); first | done | rfl | (simp only [List.length_drop, List.length_take]; rfl)) ?_; (with_reducible refine (ssarewrite_flagConstant_Z.calls a0 false _ A2.out).mono ?_); rintro e w' ⟨rfl, ⟨nd, rfl⟩⟩; refine ⟨_, rfl, ?_⟩) | (go_at_call 44; (with_reducible refine (ssarewrite_flagConstant_ge.calls a0 t114 _ A4.out).mono ?_); rintro e w' ⟨rfl, ⟨nd, rfl⟩⟩))
    go_ret
    exact ⟨by first | rfl | (simp; done) | (simp [*]; done), by repeat (first | exact Drawn0.refl _ | apply Drawn0.step)⟩

/-! ### ssarewrite_flagConstant_Gt: function 25 -/
def ssarewrite_flagConstant_Gt.f (a0 : Int) : Option (Bool) := (ssarewrite_flagConstant_gt.f a0).bind fun t115 => (some t115)
set_option maxHeartbeats 8000000 in
set_option maxRecDepth 100000 in
theorem ssarewrite_flagConstant_Gt.calls (a0 : Int) (r : Bool) (w : World) (h : ssarewrite_flagConstant_Gt.f a0 = some r) :
    Calls Try.prog 25 #[.int .u8 a0] w fun e w' => e = .returned (.bool r) ∧ Drawn0 w w' := by
  have H : ((ssarewrite_flagConstant_gt.f a0).bind fun t115 => (some t115)) = some r := h
  clear h
  replace H := Option.bind_eq_some_iff.mp H
  obtain ⟨t115, A20, H⟩ := H
  replace H : (some t115) = some r := H
  have A2 := Aside0.mk A20
  clear A20
  obtain rfl := Option.some.inj H
  go_enter Try.func25, Try.ntmps25
  go_wp2_with (first | ((with_reducible refine gate_callee (f := 43) rfl ?_); refine goesL_ (some 4) rfl rfl Try.func43 (by kernel_rfl) rfl #[.int .u8 a0] rfl (by (try simp only [List.map_toArray, List.map_cons, List.map_nil]); first | done | rfl | (simp only [List.length_drop, List.length_take]; rfl)) ?_; (with_reducible refine (ssarewrite_flagConstant_gt.calls a0 t115 _ A2.out).mono ?_); rintro e w' ⟨rfl, ⟨nd, rfl⟩⟩; refine ⟨_, rfl, ?_⟩))
  go_ret
  exact ⟨by first | rfl | (simp; done) | (simp [*]; done), by repeat (first | exact Drawn0.refl _ | apply Drawn0.step)⟩

/-! ### ssarewrite_flagConstant_Ge: function 26 -/
def ssarewrite_flagConstant_Ge.f (a0 : Int) : Option (Bool) := (ssarewrite_flagConstant_ge.f a0).bind fun t116 => (some t116)
set_option maxHeartbeats 8000000 in
set_option maxRecDepth 100000 in
theorem ssarewrite_flagConstant_Ge.calls (a0 : Int) (r : Bool) (w : World) (h : ssarewrite_flagConstant_Ge.f a0 = some r) :
    Calls Try.prog 26 #[.int .u8 a0] w fun e w' => e = .returned (.bool r) ∧ Drawn0 w w' := by
  have H : ((ssarewrite_flagConstant_ge.f a0).bind fun t116 => (some t116)) = some r := h
  clear h
  replace H := Option.bind_eq_some_iff.mp H
  obtain ⟨t116, A20, H⟩ := H
  replace H : (some t116) = some r := H
  have A2 := Aside0.mk A20
  clear A20
  obtain rfl := Option.some.inj H
  go_enter Try.func26, Try.ntmps26
  go_wp2_with (first | ((with_reducible refine gate_callee (f := 44) rfl ?_); refine goesL_ (some 4) rfl rfl Try.func44 (by kernel_rfl) rfl #[.int .u8 a0] rfl (by (try simp only [List.map_toArray, List.map_cons, List.map_nil]); first | done | rfl | (simp only [List.length_drop, List.length_take]; rfl)) ?_; (with_reducible refine (ssarewrite_flagConstant_ge.calls a0 t116 _ A2.out).mono ?_); rintro e w' ⟨rfl, ⟨nd, rfl⟩⟩; refine ⟨_, rfl, ?_⟩))
  go_ret
  exact ⟨by first | rfl | (simp; done) | (simp [*]; done), by repeat (first | exact Drawn0.refl _ | apply Drawn0.step)⟩

/-! ### ssarewrite_flagConstant_ult: function 45 -/
def ssarewrite_flagConstant_ult.f (a0 : Int) : Option (Bool) := (ssarewrite_flagConstant_C.f a0).bind fun t117 => (some (!t117))
set_option maxHeartbeats 8000000 in
set_option maxRecDepth 100000 in
theorem ssarewrite_flagConstant_ult.calls (a0 : Int) (r : Bool) (w : World) (h : ssarewrite_flagConstant_ult.f a0 = some r) :
    Calls Try.prog 45 #[.int .u8 a0] w fun e w' => e = .returned (.bool r) ∧ Drawn0 w w' := by
  have H : ((ssarewrite_flagConstant_C.f a0).bind fun t117 => (some (!t117))) = some r := h
  clear h
  replace H := Option.bind_eq_some_iff.mp H
  obtain ⟨t117, A20, H⟩ := H
  replace H : (some (!t117)) = some r := H
  have A2 := Aside0.mk A20
  clear A20
  obtain rfl := Option.some.inj H
  go_enter Try.func45, Try.ntmps45
  go_wp2_with (first | ((with_reducible refine gate_callee (f := 19) rfl ?_); refine goesL_ (some 4) rfl rfl Try.func19 (by kernel_rfl) rfl #[.int .u8 a0] rfl (by (try simp only [List.map_toArray, List.map_cons, List.map_nil]); first | done | rfl | (simp only [List.length_drop, List.length_take]; rfl)) ?_; (with_reducible refine (ssarewrite_flagConstant_C.calls a0 t117 _ A2.out).mono ?_); rintro e w' ⟨rfl, ⟨nd, rfl⟩⟩; refine ⟨_, rfl, ?_⟩))
  go_ret
  exact ⟨by first | rfl | (simp; done) | (simp [*]; done), by repeat (first | exact Drawn0.refl _ | apply Drawn0.step)⟩

/-! ### ssarewrite_flagConstant_Ult: function 27 -/
def ssarewrite_flagConstant_Ult.f (a0 : Int) : Option (Bool) := (ssarewrite_flagConstant_ult.f a0).bind fun t118 => (some t118)
set_option maxHeartbeats 8000000 in
set_option maxRecDepth 100000 in
theorem ssarewrite_flagConstant_Ult.calls (a0 : Int) (r : Bool) (w : World) (h : ssarewrite_flagConstant_Ult.f a0 = some r) :
    Calls Try.prog 27 #[.int .u8 a0] w fun e w' => e = .returned (.bool r) ∧ Drawn0 w w' := by
  have H : ((ssarewrite_flagConstant_ult.f a0).bind fun t118 => (some t118)) = some r := h
  clear h
  replace H := Option.bind_eq_some_iff.mp H
  obtain ⟨t118, A20, H⟩ := H
  replace H : (some t118) = some r := H
  have A2 := Aside0.mk A20
  clear A20
  obtain rfl := Option.some.inj H
  go_enter Try.func27, Try.ntmps27
  go_wp2_with (first | ((with_reducible refine gate_callee (f := 45) rfl ?_); refine goesL_ (some 4) rfl rfl Try.func45 (by kernel_rfl) rfl #[.int .u8 a0] rfl (by (try simp only [List.map_toArray, List.map_cons, List.map_nil]); first | done | rfl | (simp only [List.length_drop, List.length_take]; rfl)) ?_; (with_reducible refine (ssarewrite_flagConstant_ult.calls a0 t118 _ A2.out).mono ?_); rintro e w' ⟨rfl, ⟨nd, rfl⟩⟩; refine ⟨_, rfl, ?_⟩))
  go_ret
  exact ⟨by first | rfl | (simp; done) | (simp [*]; done), by repeat (first | exact Drawn0.refl _ | apply Drawn0.step)⟩

/-! ### ssarewrite_flagConstant_ule: function 46 -/
def ssarewrite_flagConstant_ule.f (a0 : Int) : Option (Bool) := (ssarewrite_flagConstant_Z.f a0).bind fun t119 => (if t119 = true then (some true) else ((ssarewrite_flagConstant_ult.f a0).bind fun t120 => (some t120)))
set_option maxHeartbeats 8000000 in
set_option maxRecDepth 100000 in
theorem ssarewrite_flagConstant_ule.calls (a0 : Int) (r : Bool) (w : World) (h : ssarewrite_flagConstant_ule.f a0 = some r) :
    Calls Try.prog 46 #[.int .u8 a0] w fun e w' => e = .returned (.bool r) ∧ Drawn0 w w' := by
  have H : ((ssarewrite_flagConstant_Z.f a0).bind fun t119 => (if t119 = true then (some true) else ((ssarewrite_flagConstant_ult.f a0).bind fun t120 => (some t120)))) = some r := h
  clear h
  replace H := Option.bind_eq_some_iff.mp H
  obtain ⟨t119, A20, H⟩ := H
  replace H : (if t119 = true then (some true) else ((ssarewrite_flagConstant_ult.f a0).bind fun t120 => (some t120))) = some r := H
  have A2 := Aside0.mk A20
  clear A20
  by_cases c3 : t119 = true
  · subst c3
    have H1 : (some true) = some r := by rw [if_pos rfl] at H; exact H
    clear H
    have H := H1
    clear H1
    obtain rfl := Option.some.inj H
    go_enter Try.func46, Try.ntmps46
    go_wp2_with (first | ((with_reducible refine gate_callee (f := 18) rfl ?_); refine goesL_ (some 4) rfl rfl Try.func18 (by kernel_rfl) rfl #[.int .u8 a0] rfl (by (try simp only [List.map_toArray, List.map_cons, List.map_nil]); first | done | rfl | (simp only [List.length_drop, List.length_take]; rfl)) ?_; (with_reducible refine (ssarewrite_flagConstant_Z.calls a0 true _ A2.out).mono ?_); rintro e w' ⟨rfl, ⟨nd, rfl⟩⟩; refine ⟨_, rfl, ?_⟩))
    go_ret
    exact ⟨by first | rfl | (simp; done) | (simp [*]; done), by repeat (first | exact Drawn0.refl _ | apply Drawn0.step)⟩
  · replace c3 := Bool.eq_false_iff.mpr c3
    subst c3
    have H1 : ((ssarewrite_flagConstant_ult.f a0).bind fun t120 => (some t120)) = some r := by rw [if_neg (show ¬ (false = true) by decide)] at H; exact H
    clear H
    have H := H1
    clear H1
    replace H := Option.bind_eq_some_iff.mp H
    obtain ⟨t120, A40, H⟩ := H
    replace H : (some t120) = some r := H
    have A4 := Aside0.mk A40
    clear A40
    obtain rfl := Option.some.inj H
    go_enter Try.func46, Try.ntmps46
    go_wp2_with (first | ((with_reducible refine gate_callee (f := 18) rfl ?_); refine goesL_ (some 4) rfl rfl Try.func18 (by kernel_rfl) rfl #[.int .u8 a0] rfl (by (try simp only [List.map_toArray, List.map_cons, List.map_nil]); first | done | rfl | (simp only [List.length_drop, List.length_take]; rfl)) ?_; (with_reducible refine (ssarewrite_flagConstant_Z.calls a0 false _ A2.out).mono ?_); rintro e w' ⟨rfl, ⟨nd, rfl⟩⟩; refine ⟨_, rfl, ?_⟩) | (go_at_call 45; (with_reducible refine (ssarewrite_flagConstant_ult.calls a0 t120 _ A4.out).mono ?_); rintro e w' ⟨rfl, ⟨nd, rfl⟩⟩))
    go_ret
    exact ⟨by first | rfl | (simp; done) | (simp [*]; done), by repeat (first | exact Drawn0.refl _ | apply Drawn0.step)⟩

/-! ### ssarewrite_flagConstant_Ule: function 28 -/
def ssarewrite_flagConstant_Ule.f (a0 : Int) : Option (Bool) := (ssarewrite_flagConstant_ule.f a0).bind fun t121 => (some t121)
set_option maxHeartbeats 8000000 in
set_option maxRecDepth 100000 in
theorem ssarewrite_flagConstant_Ule.calls (a0 : Int) (r : Bool) (w : World) (h : ssarewrite_flagConstant_Ule.f a0 = some r) :
    Calls Try.prog 28 #[.int .u8 a0] w fun e w' => e = .returned (.bool r) ∧ Drawn0 w w' := by
  have H : ((ssarewrite_flagConstant_ule.f a0).bind fun t121 => (some t121)) = some r := h
  clear h
  replace H := Option.bind_eq_some_iff.mp H
  obtain ⟨t121, A20, H⟩ := H
  replace H : (some t121) = some r := H
  have A2 := Aside0.mk A20
  clear A20
  obtain rfl := Option.some.inj H
  go_enter Try.func28, Try.ntmps28
  go_wp2_with (first | ((with_reducible refine gate_callee (f := 46) rfl ?_); refine goesL_ (some 4) rfl rfl Try.func46 (by kernel_rfl) rfl #[.int .u8 a0] rfl (by (try simp only [List.map_toArray, List.map_cons, List.map_nil]); first | done | rfl | (simp only [List.length_drop, List.length_take]; rfl)) ?_; (with_reducible refine (ssarewrite_flagConstant_ule.calls a0 t121 _ A2.out).mono ?_); rintro e w' ⟨rfl, ⟨nd, rfl⟩⟩; refine ⟨_, rfl, ?_⟩))
  go_ret
  exact ⟨by first | rfl | (simp; done) | (simp [*]; done), by repeat (first | exact Drawn0.refl _ | apply Drawn0.step)⟩

/-! ### ssarewrite_flagConstant_uge: function 48 -/
def ssarewrite_flagConstant_uge.f (a0 : Int) : Option (Bool) := (ssarewrite_flagConstant_C.f a0).bind fun t122 => (some t122)
set_option maxHeartbeats 8000000 in
set_option maxRecDepth 100000 in
theorem ssarewrite_flagConstant_uge.calls (a0 : Int) (r : Bool) (w : World) (h : ssarewrite_flagConstant_uge.f a0 = some r) :
    Calls Try.prog 48 #[.int .u8 a0] w fun e w' => e = .returned (.bool r) ∧ Drawn0 w w' := by
  have H : ((ssarewrite_flagConstant_C.f a0).bind fun t122 => (some t122)) = some r := h
  clear h
  replace H := Option.bind_eq_some_iff.mp H
  obtain ⟨t122, A20, H⟩ := H
  replace H : (some t122) = some r := H
  have A2 := Aside0.mk A20
  clear A20
  obtain rfl := Option.some.inj H
  go_enter Try.func48, Try.ntmps48
  go_wp2_with (first | ((with_reducible refine gate_callee (f := 19) rfl ?_); refine goesL_ (some 4) rfl rfl Try.func19 (by kernel_rfl) rfl #[.int .u8 a0] rfl (by (try simp only [List.map_toArray, List.map_cons, List.map_nil]); first | done | rfl | (simp only [List.length_drop, List.length_take]; rfl)) ?_; (with_reducible refine (ssarewrite_flagConstant_C.calls a0 t122 _ A2.out).mono ?_); rintro e w' ⟨rfl, ⟨nd, rfl⟩⟩; refine ⟨_, rfl, ?_⟩))
  go_ret
  exact ⟨by first | rfl | (simp; done) | (simp [*]; done), by repeat (first | exact Drawn0.refl _ | apply Drawn0.step)⟩

/-! ### ssarewrite_flagConstant_ugt: function 47 -/
def ssarewrite_flagConstant_ugt.f (a0 : Int) : Option (Bool) := (ssarewrite_flagConstant_Z.f a0).bind fun t123 => (if t123 = true then (some false) else ((ssarewrite_flagConstant_uge.f a0).bind fun t124 => (some t124)))
set_option maxHeartbeats 8000000 in
set_option maxRecDepth 100000 in
theorem ssarewrite_flagConstant_ugt.calls (a0 : Int) (r : Bool) (w : World) (h : ssarewrite_flagConstant_ugt.f a0 = some r) :
    Calls Try.prog 47 #[.int .u8 a0] w fun e w' => e = .returned (.bool r) ∧ Drawn0 w w' := by
  have H : ((ssarewrite_flagConstant_Z.f a0).bind fun t123 => (if t123 = true then (some false) else ((ssarewrite_flagConstant_uge.f a0).bind fun t124 => (some t124)))) = some r := h
  clear h
  replace H := Option.bind_eq_some_iff.mp H
  obtain ⟨t123, A20, H⟩ := H
  replace H : (if t123 = true then (some false) else ((ssarewrite_flagConstant_uge.f a0).bind fun t124 => (some t124))) = some r := H
  have A2 := Aside0.mk A20
  clear A20
  by_cases c3 : t123 = true
  · subst c3
    have H1 : (some false) = some r := by rw [if_pos rfl] at H; exact H
    clear H
    have H := H1
    clear H1
    obtain rfl := Option.some.inj H
    go_enter Try.func47, Try.ntmps47
    go_wp2_with (first | ((with_reducible refine gate_callee (f := 18) rfl ?_); refine goesL_ (some 4) rfl rfl Try.func18 (by kernel_rfl) rfl #[.int .u8 a0] rfl (by (try simp only [List.map_toArray, List.map_cons, List.map_nil]); first | done | rfl | (simp only [List.length_drop, List.length_take]; rfl)) ?_; (with_reducible refine (ssarewrite_flagConstant_Z.calls a0 true _ A2.out).mono ?_); rintro e w' ⟨rfl, ⟨nd, rfl⟩⟩; refine ⟨_, rfl, ?_⟩))
    go_ret
    exact ⟨by first | rfl | (simp; done) | (simp [*]; done), by repeat (first | exact Drawn0.refl _ | apply Drawn0.step)⟩
  · replace c3 := Bool.eq_false_iff.mpr c3
    subst c3
    have H1 : ((ssarewrite_flagConstant_uge.f a0).bind fun t124 => (some t124)) = some r := by rw [if_neg (show ¬ (false = true) by decide)] at H; exact H
    clear H
    have H := H1
    clear H1
    replace H := Option.bind_eq_some_iff.mp H
    obtain ⟨t124, A40, H⟩ := H
    replace H : (some t124) = some r := H
    have A4 := Aside0.mk A40
    clear A40
    obtain rfl := Option.some.inj H
    go_enter Try.func47, Try.ntmps47
    go_wp2_with (first | ((with_reducible refine gate_callee (f := 18) rfl ?_); refine goesL_ (some 4) rfl rfl Try.func18 (by kernel_rfl) rfl #[.int .u8 a0] rfl (by (try simp only [List.map_toArray, List.map_cons, List.map_nil]); first | done | rfl | (simp only [List.length_drop, List.length_take]; rfl)) ?_; (with_reducible refine (ssarewrite_flagConstant_Z.calls a0 false _ A2.out).mono ?_); rintro e w' ⟨rfl, ⟨nd, rfl⟩⟩; refine ⟨_, rfl, ?_⟩) | (go_at_call 48; (with_reducible refine (ssarewrite_flagConstant_uge.calls a0 t124 _ A4.out).mono ?_); rintro e w' ⟨rfl, ⟨nd, rfl⟩⟩))
    go_ret
    exact ⟨by first | rfl | (simp; done) | (simp [*]; done), by repeat (first | exact Drawn0.refl _ | apply Drawn0.step)⟩

/-! ### ssarewrite_flagConstant_Ugt: function 29 -/
def ssarewrite_flagConstant_Ugt.f (a0 : Int) : Option (Bool) := (ssarewrite_flagConstant_ugt.f a0).bind fun t125 => (some t125)
set_option maxHeartbeats 8000000 in
set_option maxRecDepth 100000 in
theorem ssarewrite_flagConstant_Ugt.calls (a0 : Int) (r : Bool) (w : World) (h : ssarewrite_flagConstant_Ugt.f a0 = some r) :
    Calls Try.prog 29 #[.int .u8 a0] w fun e w' => e = .returned (.bool r) ∧ Drawn0 w w' := by
  have H : ((ssarewrite_flagConstant_ugt.f a0).bind fun t125 => (some t125)) = some r := h
  clear h
  replace H := Option.bind_eq_some_iff.mp H
  obtain ⟨t125, A20, H⟩ := H
  replace H : (some t125) = some r := H
  have A2 := Aside0.mk A20
  clear A20
  obtain rfl := Option.some.inj H
  go_enter Try.func29, Try.ntmps29
  go_wp2_with (first | ((with_reducible refine gate_callee (f := 47) rfl ?_); refine goesL_ (some 4) rfl rfl Try.func47 (by kernel_rfl) rfl #[.int .u8 a0] rfl (by (try simp only [List.map_toArray, List.map_cons, List.map_nil]); first | done | rfl | (simp only [List.length_drop, List.length_take]; rfl)) ?_; (with_reducible refine (ssarewrite_flagConstant_ugt.calls a0 t125 _ A2.out).mono ?_); rintro e w' ⟨rfl, ⟨nd, rfl⟩⟩; refine ⟨_, rfl, ?_⟩))
  go_ret
  exact ⟨by first | rfl | (simp; done) | (simp [*]; done), by repeat (first | exact Drawn0.refl _ | apply Drawn0.step)⟩

/-! ### ssarewrite_flagConstant_Uge: function 30 -/
def ssarewrite_flagConstant_Uge.f (a0 : Int) : Option (Bool) := (ssarewrite_flagConstant_uge.f a0).bind fun t126 => (some t126)
set_option maxHeartbeats 8000000 in
set_option maxRecDepth 100000 in
theorem ssarewrite_flagConstant_Uge.calls (a0 : Int) (r : Bool) (w : World) (h : ssarewrite_flagConstant_Uge.f a0 = some r) :
    Calls Try.prog 30 #[.int .u8 a0] w fun e w' => e = .returned (.bool r) ∧ Drawn0 w w' := by
  have H : ((ssarewrite_flagConstant_uge.f a0).bind fun t126 => (some t126)) = some r := h
  clear h
  replace H := Option.bind_eq_some_iff.mp H
  obtain ⟨t126, A20, H⟩ := H
  replace H : (some t126) = some r := H
  have A2 := Aside0.mk A20
  clear A20
  obtain rfl := Option.some.inj H
  go_enter Try.func30, Try.ntmps30
  go_wp2_with (first | ((with_reducible refine gate_callee (f := 48) rfl ?_); refine goesL_ (some 4) rfl rfl Try.func48 (by kernel_rfl) rfl #[.int .u8 a0] rfl (by (try simp only [List.map_toArray, List.map_cons, List.map_nil]); first | done | rfl | (simp only [List.length_drop, List.length_take]; rfl)) ?_; (with_reducible refine (ssarewrite_flagConstant_uge.calls a0 t126 _ A2.out).mono ?_); rintro e w' ⟨rfl, ⟨nd, rfl⟩⟩; refine ⟨_, rfl, ?_⟩))
  go_ret
  exact ⟨by first | rfl | (simp; done) | (simp [*]; done), by repeat (first | exact Drawn0.refl _ | apply Drawn0.step)⟩

/-! ### ssarewrite_flagConstant_ltNoov: function 49 -/
def ssarewrite_flagConstant_ltNoov.f (a0 : Int) : Option (Bool) := (ssarewrite_flagConstant_lt.f a0).bind fun t127 => (if t127 = true then ((ssarewrite_flagConstant_V.f a0).bind fun t128 => (some (!t128))) else (some false))
set_option maxHeartbeats 8000000 in
set_option maxRecDepth 100000 in
theorem ssarewrite_flagConstant_ltNoov.calls (a0 : Int) (r : Bool) (w : World) (h : ssarewrite_flagConstant_ltNoov.f a0 = some r) :
    Calls Try.prog 49 #[.int .u8 a0] w fun e w' => e = .returned (.bool r) ∧ Drawn0 w w' := by
  have H : ((ssarewrite_flagConstant_lt.f a0).bind fun t127 => (if t127 = true then ((ssarewrite_flagConstant_V.f a0).bind fun t128 => (some (!t128))) else (some false))) = some r := h
  clear h
  replace H := Option.bind_eq_some_iff.mp H
  obtain ⟨t127, A20, H⟩ := H
  replace H : (if t127 = true then ((ssarewrite_flagConstant_V.f a0).bind fun t128 => (some (!t128))) else (some false)) = some r := H
  have A2 := Aside0.mk A20
  clear A20
  by_cases c3 : t127 = true
  · subst c3
    have H1 : ((ssarewrite_flagConstant_V.f a0).bind fun t128 => (some (!t128))) = some r := by rw [if_pos rfl] at H; exact H
    clear H
    have H := H1
    clear H1
    replace H := Option.bind_eq_some_iff.mp H
    obtain ⟨t128, A40, H⟩ := H
    replace H : (some (!t128)) = some r := H
    have A4 := Aside0.mk A40
    clear A40
    obtain rfl := Option.some.inj H
    go_enter Try.func49, Try.ntmps49
    go_wp2_with (first | ((with_reducible refine gate_callee (f := 41) rfl ?_); refine goesL_ (some 4) rfl rfl Try.func41 (by kernel_rfl) rfl #[.int .u8 a0] rfl (by (try simp only [List.map_toArray, List.map_cons, List.map_nil]); first | done | rfl | (simp only [List.length_drop, List.length_take]; rfl)) ?_; (with_reducible refine (ssarewrite_flagConstant_lt.calls a0 true _ A2.out).mono ?_); rintro e w' ⟨rfl, ⟨nd, rfl⟩⟩; refine ⟨_, rfl, ?_⟩) | (go_at_call 20; (with_reducible refine (ssarewrite_flagConstant_V.calls a0 t128 _ A4.out).mono ?_); rintro e w' ⟨rfl, ⟨nd, rfl⟩⟩))
    go_ret
    exact ⟨by first | rfl | (simp; done) | (simp [*]; done), by repeat (first | exact Drawn0.refl _ | apply Drawn0.step)⟩
  · replace c3 := Bool.eq_false_iff.mpr c3
    subst c3
    have H1 : (some false) = some r := by rw [if_neg (show ¬ (false = true) by decide)] at H; exact H
    clear H
    have H := H1
    clear H1
    obtain rfl := Option.some.inj H
    go_enter Try.func49, Try.ntmps49
    go_wp2_with (first | ((with_reducible refine gate_callee (f := 41) rfl ?_); refine goesL_ (some 4) rfl rfl Try.func41 (by kernel_rfl) rfl #[.int .u8 a0] rfl (by (try simp only [List.map_toArray, List.map_cons, List.map_nil]); first | done | rfl | (simp only [List.length_drop, List.length_take]; rfl)) ?_; (with_reducible refine (ssarewrite_flagConstant_lt.calls a0 false _ A2.out).mono ?_); rintro e w' ⟨rfl, ⟨nd, rfl⟩⟩; refine ⟨_, rfl, ?_⟩))
    go_ret
    exact ⟨by first | rfl | (simp; done) | (simp [*]; done), by repeat (first | exact Drawn0.refl _ | apply Drawn0.step)⟩

/-! ### ssarewrite_flagConstant_LtNoov: function 31 -/
def ssarewrite_flagConstant_LtNoov.f (a0 : Int) : Option (Bool) := (ssarewrite_flagConstant_ltNoov.f a0).bind fun t129 => (some t129)
set_option maxHeartbeats 8000000 in
set_option maxRecDepth 100000 in
theorem ssarewrite_flagConstant_LtNoov.calls (a0 : Int) (r : Bool) (w : World) (h : ssarewrite_flagConstant_LtNoov.f a0 = some r) :
    Calls Try.prog 31 #[.int .u8 a0] w fun e w' => e = .returned (.bool r) ∧ Drawn0 w w' := by
  have H : ((ssarewrite_flagConstant_ltNoov.f a0).bind fun t129 => (some t129)) = some r := h
  clear h
  replace H := Option.bind_eq_some_iff.mp H
  obtain ⟨t129, A20, H⟩ := H
  replace H : (some t129) = some r := H
  have A2 := Aside0.mk A20
  clear A20
  obtain rfl := Option.some.inj H
  go_enter Try.func31, Try.ntmps31
  go_wp2_with (first | ((with_reducible refine gate_callee (f := 49) rfl ?_); refine goesL_ (some 4) rfl rfl Try.func49 (by kernel_rfl) rfl #[.int .u8 a0] rfl (by (try simp only [List.map_toArray, List.map_cons, List.map_nil]); first | done | rfl | (simp only [List.length_drop, List.length_take]; rfl)) ?_; (with_reducible refine (ssarewrite_flagConstant_ltNoov.calls a0 t129 _ A2.out).mono ?_); rintro e w' ⟨rfl, ⟨nd, rfl⟩⟩; refine ⟨_, rfl, ?_⟩))
  go_ret
  exact ⟨by first | rfl | (simp; done) | (simp [*]; done), by repeat (first | exact Drawn0.refl _ | apply Drawn0.step)⟩

/-! ### ssarewrite_flagConstant_leNoov: function 50 -/
def ssarewrite_flagConstant_leNoov.f (a0 : Int) : Option (Bool) := (ssarewrite_flagConstant_le.f a0).bind fun t130 => (if t130 = true then ((ssarewrite_flagConstant_V.f a0).bind fun t131 => (some (!t131))) else (some false))
set_option maxHeartbeats 8000000 in
set_option maxRecDepth 100000 in
theorem ssarewrite_flagConstant_leNoov.calls (a0 : Int) (r : Bool) (w : World) (h : ssarewrite_flagConstant_leNoov.f a0 = some r) :
    Calls Try.prog 50 #[.int .u8 a0] w fun e w' => e = .returned (.bool r) ∧ Drawn0 w w' := by
  have H : ((ssarewrite_flagConstant_le.f a0).bind fun t130 => (if t130 = true then ((ssarewrite_flagConstant_V.f a0).bind fun t131 => (some (!t131))) else (some false))) = some r := h
  clear h
  replace H := Option.bind_eq_some_iff.mp H
  obtain ⟨t130, A20, H⟩ := H
  replace H : (if t130 = true then ((ssarewrite_flagConstant_V.f a0).bind fun t131 => (some (!t131))) else (some false)) = some r := H
  have A2 := Aside0.mk A20
  clear A20
  by_cases c3 : t130 = true
  · subst c3
    have H1 : ((ssarewrite_flagConstant_V.f a0).bind fun t131 => (some (!t131))) = some r := by rw [if_pos rfl] at H; exact H
    clear H
    have H := H1
    clear H1
    replace H := Option.bind_eq_some_iff.mp H
    obtain ⟨t131, A40, H⟩ := H
    replace H : (some (!t131)) = some r := H
    have A4 := Aside0.mk A40
    clear A40
    obtain rfl := Option.some.inj H
    go_enter Try.func50, Try.ntmps50
    go_wp2_with (first | ((with_reducible refine gate_callee (f := 42) rfl ?_); refine goesL_ (some 4) rfl rfl Try.func42 (by kernel_rfl) rfl #[.int .u8 a0] rfl (by (try simp only [List.map_toArray, List.map_cons, List.map_nil]); first | done | rfl | (simp only [List.length_drop, List.length_take]; rfl)) ?_; (with_reducible refine (ssarewrite_flagConstant_le.calls a0 true _ A2.out).mono ?_); rintro e w' ⟨rfl, ⟨nd, rfl⟩⟩; refine ⟨_, rfl, ?_⟩) | (go_at_call 20; (with_reducible refine (ssarewrite_flagConstant_V.calls a0 t131 _ A4.out).mono ?_); rintro e w' ⟨rfl, ⟨nd, rfl⟩⟩))
    go_ret
    exact ⟨by first | rfl | (simp; done) | (simp [*]; done), by repeat (first | exact Drawn0.refl _ | apply Drawn0.step)⟩
  · replace c3 := Bool.eq_false_iff.mpr c3
    subst c3
    have H1 : (some false) = some r := by rw [if_neg (show ¬ (false = true) by decide)] at H; exact H
    clear H
    have H := H1
    clear H1
    obtain rfl := Option.some.inj H
    go_enter Try.func50, Try.ntmps50
    go_wp2_with (first | ((with_reducible refine gate_callee (f := 42) rfl ?_); refine goesL_ (some 4) rfl rfl Try.func42 (by kernel_rfl) rfl #[.int .u8 a0] rfl (by (try simp only [List.map_toArray, List.map_cons, List.map_nil]); first | done | rfl | (simp only [List.length_drop, List.length_take]; rfl)) ?_; (with_reducible refine (ssarewrite_flagConstant_le.calls a0 false _ A2.out).mono ?_); rintro e w' ⟨rfl, ⟨nd, rfl⟩⟩; refine ⟨_, rfl, ?_⟩))
    go_ret
    exact ⟨by first | rfl | (simp; done) | (simp [*]; done), by repeat (first | exact Drawn0.refl _ | apply Drawn0.step)⟩

/-! ### ssarewrite_flagConstant_LeNoov: function 32 -/
def ssarewrite_flagConstant_LeNoov.f (a0 : Int) : Option (Bool) := (ssarewrite_flagConstant_leNoov.f a0).bind fun t132 => (some t132)
set_option maxHeartbeats 8000000 in
set_option maxRecDepth 100000 in
theorem ssarewrite_flagConstant_LeNoov.calls (a0 : Int) (r : Bool) (w : World) (h : ssarewrite_flagConstant_LeNoov.f a0 = some r) :
    Calls Try.prog 32 #[.int .u8 a0] w fun e w' => e = .returned (.bool r) ∧ Drawn0 w w' := by
  have H : ((ssarewrite_flagConstant_leNoov.f a0).bind fun t132 => (some t132)) = some r := h
  clear h
  replace H := Option.bind_eq_some_iff.mp H
  obtain ⟨t132, A20, H⟩ := H
  replace H : (some t132) = some r := H
  have A2 := Aside0.mk A20
  clear A20
  obtain rfl := Option.some.inj H
  go_enter Try.func32, Try.ntmps32
  go_wp2_with (first | ((with_reducible refine gate_callee (f := 50) rfl ?_); refine goesL_ (some 4) rfl rfl Try.func50 (by kernel_rfl) rfl #[.int .u8 a0] rfl (by (try simp only [List.map_toArray, List.map_cons, List.map_nil]); first | done | rfl | (simp only [List.length_drop, List.length_take]; rfl)) ?_; (with_reducible refine (ssarewrite_flagConstant_leNoov.calls a0 t132 _ A2.out).mono ?_); rintro e w' ⟨rfl, ⟨nd, rfl⟩⟩; refine ⟨_, rfl, ?_⟩))
  go_ret
  exact ⟨by first | rfl | (simp; done) | (simp [*]; done), by repeat (first | exact Drawn0.refl _ | apply Drawn0.step)⟩

/-! ### ssarewrite_flagConstant_gtNoov: function 51 -/
def ssarewrite_flagConstant_gtNoov.f (a0 : Int) : Option (Bool) := (ssarewrite_flagConstant_gt.f a0).bind fun t133 => (if t133 = true then ((ssarewrite_flagConstant_V.f a0).bind fun t134 => (some (!t134))) else (some false))
set_option maxHeartbeats 8000000 in
set_option maxRecDepth 100000 in
theorem ssarewrite_flagConstant_gtNoov.calls (a0 : Int) (r : Bool) (w : World) (h : ssarewrite_flagConstant_gtNoov.f a0 = some r) :
    Calls Try.prog 51 #[.int .u8 a0] w fun e w' => e = .returned (.bool r) ∧ Drawn0 w w' := by
  have H : ((ssarewrite_flagConstant_gt.f a0).bind fun t133 => (if t133 = true then ((ssarewrite_flagConstant_V.f a0).bind fun t134 => (some (!t134))) else (some false))) = some r := h
  clear h
  replace H := Option.bind_eq_some_iff.mp H
  obtain ⟨t133, A20, H⟩ := H
  replace H : (if t133 = true then ((ssarewrite_flagConstant_V.f a0).bind fun t134 => (some (!t134))) else (some false)) = some r := H
  have A2 := Aside0.mk A20
  clear A20
  by_cases c3 : t133 = true
  · subst c3
    have H1 : ((ssarewrite_flagConstant_V.f a0).bind fun t134 => (some (!t134))) = some r := by rw [if_pos rfl] at H; exact H
    clear H
    have H := H1
    clear H1
    replace H := Option.bind_eq_some_iff.mp H
    obtain ⟨t134, A40, H⟩ := H
    replace H : (some (!t134)) = some r := H
    have A4 := Aside0.mk A40
    clear A40
    obtain rfl := Option.some.inj H
    go_enter Try.func51, Try.ntmps51
    go_wp2_with (first | ((with_reducible refine gate_callee (f := 43) rfl ?_); refine goesL_ (some 4) rfl rfl Try.func43 (by kernel_rfl) rfl #[.int .u8 a0] rfl (by (try simp only [List.map_toArray, List.map_cons, List.map_nil]); first | done | rfl | (simp only [List.length_drop, List.length_take]; rfl)) ?_; (with_reducible refine (ssarewrite_flagConstant_gt.calls a0 true _ A2.out).mono ?_); rintro e w' ⟨rfl, ⟨nd, rfl⟩⟩; refine ⟨_, rfl, ?_⟩) | (go_at_call 20; (with_reducible refine (ssarewrite_flagConstant_V.calls a0 t134 _ A4.out).mono ?_); rintro e w' ⟨rfl, ⟨nd, rfl⟩⟩))
    go_ret
    exact ⟨by first | rfl | (simp; done) | (simp [*]; done), by repeat (first | exact Drawn0.refl _ | apply Drawn0.step)⟩
  · replace c3 := Bool.eq_false_iff.mpr c3
    subst c3
    have H1 : (some false) = some r := by rw [if_neg (show ¬ (false = true) by decide)] at H; exact H
    clear H
    have H := H1
    clear H1
    obtain rfl := Option.some.inj H
    go_enter Try.func51, Try.ntmps51
    go_wp2_with (first | ((with_reducible refine gate_callee (f := 43) rfl ?_); refine goesL_ (some 4) rfl rfl Try.func43 (by kernel_rfl) rfl #[.int .u8 a0] rfl (by (try simp only [List.map_toArray, List.map_cons, List.map_nil]); first | done | rfl | (simp only [List.length_drop, List.length_take]; rfl)) ?_; (with_reducible refine (ssarewrite_flagConstant_gt.calls a0 false _ A2.out).mono ?_); rintro e w' ⟨rfl, ⟨nd, rfl⟩⟩; refine ⟨_, rfl, ?_⟩))
    go_ret
    exact ⟨by first | rfl | (simp; done) | (simp [*]; done), by repeat (first | exact Drawn0.refl _ | apply Drawn0.step)⟩

/-! ### ssarewrite_flagConstant_GtNoov: function 33 -/
def ssarewrite_flagConstant_GtNoov.f (a0 : Int) : Option (Bool) := (ssarewrite_flagConstant_gtNoov.f a0).bind fun t135 => (some t135)
set_option maxHeartbeats 8000000 in
set_option maxRecDepth 100000 in
theorem ssarewrite_flagConstant_GtNoov.calls (a0 : Int) (r : Bool) (w : World) (h : ssarewrite_flagConstant_GtNoov.f a0 = some r) :
    Calls Try.prog 33 #[.int .u8 a0] w fun e w' => e = .returned (.bool r) ∧ Drawn0 w w' := by
  have H : ((ssarewrite_flagConstant_gtNoov.f a0).bind fun t135 => (some t135)) = some r := h
  clear h
  replace H := Option.bind_eq_some_iff.mp H
  obtain ⟨t135, A20, H⟩ := H
  replace H : (some t135) = some r := H
  have A2 := Aside0.mk A20
  clear A20
  obtain rfl := Option.some.inj H
  go_enter Try.func33, Try.ntmps33
  go_wp2_with (first | ((with_reducible refine gate_callee (f := 51) rfl ?_); refine goesL_ (some 4) rfl rfl Try.func51 (by kernel_rfl) rfl #[.int .u8 a0] rfl (by (try simp only [List.map_toArray, List.map_cons, List.map_nil]); first | done | rfl | (simp only [List.length_drop, List.length_take]; rfl)) ?_; (with_reducible refine (ssarewrite_flagConstant_gtNoov.calls a0 t135 _ A2.out).mono ?_); rintro e w' ⟨rfl, ⟨nd, rfl⟩⟩; refine ⟨_, rfl, ?_⟩))
  go_ret
  exact ⟨by first | rfl | (simp; done) | (simp [*]; done), by repeat (first | exact Drawn0.refl _ | apply Drawn0.step)⟩

/-! ### ssarewrite_flagConstant_geNoov: function 52 -/
def ssarewrite_flagConstant_geNoov.f (a0 : Int) : Option (Bool) := (ssarewrite_flagConstant_ge.f a0).bind fun t136 => (if t136 = true then ((ssarewrite_flagConstant_V.f a0).bind fun t137 => (some (!t137))) else (some false))
set_option maxHeartbeats 8000000 in
set_option maxRecDepth 100000 in
theorem ssarewrite_flagConstant_geNoov.calls (a0 : Int) (r : Bool) (w : World) (h : ssarewrite_flagConstant_geNoov.f a0 = some r) :
    Calls Try.prog 52 #[.int .u8 a0] w fun e w' => e = .returned (.bool r) ∧ Drawn0 w w' := by
  have H : ((ssarewrite_flagConstant_ge.f a0).bind fun t136 => (if t136 = true then ((ssarewrite_flagConstant_V.f a0).bind fun t137 => (some (!t137))) else (some false))) = some r := h
  clear h
  replace H := Option.bind_eq_some_iff.mp H
  obtain ⟨t136, A20, H⟩ := H
  replace H : (if t136 = true then ((ssarewrite_flagConstant_V.f a0).bind fun t137 => (some (!t137))) else (some false)) = some r := H
  have A2 := Aside0.mk A20
  clear A20
  by_cases c3 : t136 = true
  · subst c3
    have H1 : ((ssarewrite_flagConstant_V.f a0).bind fun t137 => (some (!t137))) = some r := by rw [if_pos rfl] at H; exact H
    clear H
    have H := H1
    clear H1
    replace H := Option.bind_eq_some_iff.mp H
    obtain ⟨t137, A40, H⟩ := H
    replace H : (some (!t137)) = some r := H
    have A4 := Aside0.mk A40
    clear A40
    obtain rfl := Option.some.inj H
    go_enter Try.func52, Try.ntmps52
    go_wp2_with (first | ((with_reducible refine gate_callee (f := 44) rfl ?_); refine goesL_ (some 4) rfl rfl Try.func44 (by kernel_rfl) rfl #[.int .u8 a0] rfl (by (try simp only [List.map_toArray, List.map_cons, List.map_nil]); first | done | rfl | (simp only [List.length_drop, List.length_take]; rfl)) ?_; (with_reducible refine (ssarewrite_flagConstant_ge.calls a0 true _ A2.out).mono ?_); rintro e w' ⟨rfl, ⟨nd, rfl⟩⟩; refine ⟨_, rfl, ?_⟩) | (go_at_call 20; (with_reducible refine (ssarewrite_flagConstant_V.calls a0 t137 _ A4.out).mono ?_); rintro e w' ⟨rfl, ⟨nd, rfl⟩⟩))
    go_ret
    exact ⟨by first | rfl | (simp; done) | (simp [*]; done), by repeat (first | exact Drawn0.refl _ | apply Drawn0.step)⟩
  · replace c3 := Bool.eq_false_iff.mpr c3
    subst c3
    have H1 : (some false) = some r := by rw [if_neg (show ¬ (false = true) by decide)] at H; exact H
    clear H
    have H := H1
    clear H1
    obtain rfl := Option.some.inj H
    go_enter Try.func52, Try.ntmps52
    go_wp2_with (first | ((with_reducible refine gate_callee (f := 44) rfl ?_); refine goesL_ (some 4) rfl rfl Try.func44 (by kernel_rfl) rfl #[.int .u8 a0] rfl (by (try simp only [List.map_toArray, List.map_cons, List.map_nil]); first | done | rfl | (simp only [List.length_drop, List.length_take]; rfl)) ?_; (with_reducible refine (ssarewrite_flagConstant_ge.calls a0 false _ A2.out).mono ?_); rintro e w' ⟨rfl, ⟨nd, rfl⟩⟩; refine ⟨_, rfl, ?_⟩))
    go_ret
    exact ⟨by first | rfl | (simp; done) | (simp [*]; done), by repeat (first | exact Drawn0.refl _ | apply Drawn0.step)⟩

/-! ### ssarewrite_flagConstant_GeNoov: function 34 -/
def ssarewrite_flagConstant_GeNoov.f (a0 : Int) : Option (Bool) := (ssarewrite_flagConstant_geNoov.f a0).bind fun t138 => (some t138)
set_option maxHeartbeats 8000000 in
set_option maxRecDepth 100000 in
theorem ssarewrite_flagConstant_GeNoov.calls (a0 : Int) (r : Bool) (w : World) (h : ssarewrite_flagConstant_GeNoov.f a0 = some r) :
    Calls Try.prog 34 #[.int .u8 a0] w fun e w' => e = .returned (.bool r) ∧ Drawn0 w w' := by
  have H : ((ssarewrite_flagConstant_geNoov.f a0).bind fun t138 => (some t138)) = some r := h
  clear h
  replace H := Option.bind_eq_some_iff.mp H
  obtain ⟨t138, A20, H⟩ := H
  replace H : (some t138) = some r := H
  have A2 := Aside0.mk A20
  clear A20
  obtain rfl := Option.some.inj H
  go_enter Try.func34, Try.ntmps34
  go_wp2_with (first | ((with_reducible refine gate_callee (f := 52) rfl ?_); refine goesL_ (some 4) rfl rfl Try.func52 (by kernel_rfl) rfl #[.int .u8 a0] rfl (by (try simp only [List.map_toArray, List.map_cons, List.map_nil]); first | done | rfl | (simp only [List.length_drop, List.length_take]; rfl)) ?_; (with_reducible refine (ssarewrite_flagConstant_geNoov.calls a0 t138 _ A2.out).mono ?_); rintro e w' ⟨rfl, ⟨nd, rfl⟩⟩; refine ⟨_, rfl, ?_⟩))
  go_ret
  exact ⟨by first | rfl | (simp; done) | (simp [*]; done), by repeat (first | exact Drawn0.refl _ | apply Drawn0.step)⟩

/-! ### impl_flags: function 12 -/
def impl_flags.f (a0 : Int) : Option (Bool × Bool × Bool × Bool × Bool × Bool × Bool × Bool × Bool × Bool × Bool × Bool × Bool × Bool × Bool × Bool × Bool × Bool) := (ssarewrite_flagConstant_N.f a0).bind fun t140 => ((ssarewrite_flagConstant_Z.f a0).bind fun t141 => ((ssarewrite_flagConstant_C.f a0).bind fun t142 => ((ssarewrite_flagConstant_V.f a0).bind fun t143 => ((ssarewrite_flagConstant_Eq.f a0).bind fun t144 => ((ssarewrite_flagConstant_Ne.f a0).bind fun t145 => ((ssarewrite_flagConstant_Lt.f a0).bind fun t146 => ((ssarewrite_flagConstant_Le.f a0).bind fun t147 => ((ssarewrite_flagConstant_Gt.f a0).bind fun t148 => ((ssarewrite_flagConstant_Ge.f a0).bind fun t149 => ((ssarewrite_flagConstant_Ult.f a0).bind fun t150 => ((ssarewrite_flagConstant_Ule.f a0).bind fun t151 => ((ssarewrite_flagConstant_Ugt.f a0).bind fun t152 => ((ssarewrite_flagConstant_Uge.f a0).bind fun t153 => ((ssarewrite_flagConstant_LtNoov.f a0).bind fun t154 => ((ssarewrite_flagConstant_LeNoov.f a0).bind fun t155 => ((ssarewrite_flagConstant_GtNoov.f a0).bind fun t156 => ((ssarewrite_flagConstant_GeNoov.f a0).bind fun t157 => (some (t140, t141, t142, t143, t144, t145, t146, t147, t148, t149, t150, t151, t152, t153, t154, t155, t156, t157)))))))))))))))))))
set_option maxHeartbeats 8000000 in
set_option maxRecDepth 100000 in
theorem impl_flags.calls (a0 : Int) (r1 : Bool) (r2 : Bool) (r3 : Bool) (r4 : Bool) (r5 : Bool) (r6 : Bool) (r7 : Bool) (r8 : Bool) (r9 : Bool) (r10 : Bool) (r11 : Bool) (r12 : Bool) (r13 : Bool) (r14 : Bool) (r15 : Bool) (r16 : Bool) (r17 : Bool) (r18 : Bool) (w : World) (h : impl_flags.f a0 = some (r1, r2, r3, r4, r5, r6, r7, r8, r9, r10, r11, r12, r13, r14, r15, r16, r17, r18)) :
    Calls Try.prog 12 #[.int .u8 a0] w fun e w' => e = .returned (.agg #[.bool r1, .bool r2, .bool r3, .bool r4, .bool r5, .bool r6, .bool r7, .bool r8, .bool r9, .bool r10, .bool r11, .bool r12, .bool r13, .bool r14, .bool r15, .bool r16, .bool r17, .bool r18]) ∧ Below w.heap.size w w' := by
  have hu23 := Try.underlying23
  have HB := Aside0.mk (Below.refl w.heap.size w)
  have H : ((ssarewrite_flagConstant_N.f a0).bind fun t140 => ((ssarewrite_flagConstant_Z.f a0).bind fun t141 => ((ssarewrite_flagConstant_C.f a0).bind fun t142 => ((ssarewrite_flagConstant_V.f a0).bind fun t143 => ((ssarewrite_flagConstant_Eq.f a0).bind fun t144 => ((ssarewrite_flagConstant_Ne.f a0).bind fun t145 => ((ssarewrite_flagConstant_Lt.f a0).bind fun t146 => ((ssarewrite_flagConstant_Le.f a0).bind fun t147 => ((ssarewrite_flagConstant_Gt.f a0).bind fun t148 => ((ssarewrite_flagConstant_Ge.f a0).bind fun t149 => ((ssarewrite_flagConstant_Ult.f a0).bind fun t150 => ((ssarewrite_flagConstant_Ule.f a0).bind fun t151 => ((ssarewrite_flagConstant_Ugt.f a0).bind fun t152 => ((ssarewrite_flagConstant_Uge.f a0).bind fun t153 => ((ssarewrite_flagConstant_LtNoov.f a0).bind fun t154 => ((ssarewrite_flagConstant_LeNoov.f a0).bind fun t155 => ((ssarewrite_flagConstant_GtNoov.f a0).bind fun t156 => ((ssarewrite_flagConstant_GeNoov.f a0).bind fun t157 => (some (t140, t141, t142, t143, t144, t145, t146, t147, t148, t149, t150, t151, t152, t153, t154, t155, t156, t157)))))))))))))))))))) = some (r1, r2, r3, r4, r5, r6, r7, r8, r9, r10, r11, r12, r13, r14, r15, r16, r17, r18) := h
  clear h
  replace H := Option.bind_eq_some_iff.mp H
  obtain ⟨t140, A20, H⟩ := H
  replace H : ((ssarewrite_flagConstant_Z.f a0).bind fun t141 => ((ssarewrite_flagConstant_C.f a0).bind fun t142 => ((ssarewrite_flagConstant_V.f a0).bind fun t143 => ((ssarewrite_flagConstant_Eq.f a0).bind fun t144 => ((ssarewrite_flagConstant_Ne.f a0).bind fun t145 => ((ssarewrite_flagConstant_Lt.f a0).bind fun t146 => ((ssarewrite_flagConstant_Le.f a0).bind fun t147 => ((ssarewrite_flagConstant_Gt.f a0).bind fun t148 => ((ssarewrite_flagConstant_Ge.f a0).bind fun t149 => ((ssarewrite_flagConstant_Ult.f a0).bind fun t150 => ((ssarewrite_flagConstant_Ule.f a0).bind fun t151 => ((ssarewrite_flagConstant_Ugt.f a0).bind fun t152 => ((ssarewrite_flagConstant_Uge.f a0).bind fun t153 => ((ssarewrite_flagConstant_LtNoov.f a0).bind fun t154 => ((ssarewrite_flagConstant_LeNoov.f a0).bind fun t155 => ((ssarewrite_flagConstant_GtNoov.f a0).bind fun t156 => ((ssarewrite_flagConstant_GeNoov.f a0).bind fun t157 => (some (t140, t141, t142, t143, t144, t145, t146, t147, t148, t149, t150, t151, t152, t153, t154, t155, t156, t157))))))))))))))))))) = some (r1, r2, r3, r4, r5, r6, r7, r8, r9, r10, r11, r12, r13, r14, r15, r16, r17, r18) := H
  have A2 := Aside0.mk A20
  clear A20
  replace H := Option.bind_eq_some_iff.mp H
  obtain ⟨t141, A30, H⟩ := H
  replace H : ((ssarewrite_flagConstant_C.f a0).bind fun t142 => ((ssarewrite_flagConstant_V.f a0).bind fun t143 => ((ssarewrite_flagConstant_Eq.f a0).bind fun t144 => ((ssarewrite_flagConstant_Ne.f a0).bind fun t145 => ((ssarewrite_flagConstant_Lt.f a0).bind fun t146 => ((ssarewrite_flagConstant_Le.f a0).bind fun t147 => ((ssarewrite_flagConstant_Gt.f a0).bind fun t148 => ((ssarewrite_flagConstant_Ge.f a0).bind fun t149 => ((ssarewrite_flagConstant_Ult.f a0).bind fun t150 => ((ssarewrite_flagConstant_Ule.f a0).bind fun t151 => ((ssarewrite_flagConstant_Ugt.f a0).bind fun t152 => ((ssarewrite_flagConstant_Uge.f a0).bind fun t153 => ((ssarewrite_flagConstant_LtNoov.f a0).bind fun t154 => ((ssarewrite_flagConstant_LeNoov.f a0).bind fun t155 => ((ssarewrite_flagConstant_GtNoov.f a0).bind fun t156 => ((ssarewrite_flagConstant_GeNoov.f a0).bind fun t157 => (some (t140, t141, t142, t143, t144, t145, t146, t147, t148, t149, t150, t151, t152, t153, t154, t155, t156, t157)))))))))))))))))) = some (r1, r2, r3, r4, r5, r6, r7, r8, r9, r10, r11, r12, r13, r14, r15, r16, r17, r18) := H
  have A3 := Aside0.mk A30
  clear A30
  replace H := Option.bind_eq_some_iff.mp H
  obtain ⟨t142, A40, H⟩ := H
  replace H : ((ssarewrite_flagConstant_V.f a0).bind fun t143 => ((ssarewrite_flagConstant_Eq.f a0).bind fun t144 => ((ssarewrite_flagConstant_Ne.f a0).bind fun t145 => ((ssarewrite_flagConstant_Lt.f a0).bind fun t146 => ((ssarewrite_flagConstant_Le.f a0).bind fun t147 => ((ssarewrite_flagConstant_Gt.f a0).bind fun t148 => ((ssarewrite_flagConstant_Ge.f a0).bind fun t149 => ((ssarewrite_flagConstant_Ult.f a0).bind fun t150 => ((ssarewrite_flagConstant_Ule.f a0).bind fun t151 => ((ssarewrite_flagConstant_Ugt.f a0).bind fun t152 => ((ssarewrite_flagConstant_Uge.f a0).bind fun t153 => ((ssarewrite_flagConstant_LtNoov.f a0).bind fun t154 => ((ssarewrite_flagConstant_LeNoov.f a0).bind fun t155 => ((ssarewrite_flagConstant_GtNoov.f a0).bind fun t156 => ((ssarewrite_flagConstant_GeNoov.f a0).bind fun t157 => (some (t140, t141, t142, t143, t144, t145, t146, t147, t148, t149, t150, t151, t152, t153, t154, t155, t156, t157))))))))))))))))) = some (r1, r2, r3, r4, r5, r6, r7, r8, r9, r10, r11, r12, r13, r14, r15, r16, r17, r18) := H
  have A4 := Aside0.mk A40
  clear A40
  replace H := Option.bind_eq_some_iff.mp H
  obtain ⟨t143, A50, H⟩ := H
  replace H : ((ssarewrite_flagConstant_Eq.f a0).bind fun t144 => ((ssarewrite_flagConstant_Ne.f a0).bind fun t145 => ((ssarewrite_flagConstant_Lt.f a0).bind fun t146 => ((ssarewrite_flagConstant_Le.f a0).bind fun t147 => ((ssarewrite_flagConstant_Gt.f a0).bind fun t148 => ((ssarewrite_flagConstant_Ge.f a0).bind fun t149 => ((ssarewrite_flagConstant_Ult.f a0).bind fun t150 => ((ssarewrite_flagConstant_Ule.f a0).bind fun t151 => ((ssarewrite_flagConstant_Ugt.f a0).bind fun t152 => ((ssarewrite_flagConstant_Uge.f a0).bind fun t153 => ((ssarewrite_flagConstant_LtNoov.f a0).bind fun t154 => ((ssarewrite_flagConstant_LeNoov.f a0).bind fun t155 => ((ssarewrite_flagConstant_GtNoov.f a0).bind fun t156 => ((ssarewrite_flagConstant_GeNoov.f a0).bind fun t157 => (some (t140, t141, t142, t143, t144, t145, t146, t147, t148, t149, t150, t151, t152, t153, t154, t155, t156, t157)))))))))))))))) = some (r1, r2, r3, r4, r5, r6, r7, r8, r9, r10, r11, r12, r13, r14, r15, r16, r17, r18) := H
  have A5 := Aside0.mk A50
  clear A50
  replace H := Option.bind_eq_some_iff.mp H
  obtain ⟨t144, A60, H⟩ := H
  replace H : ((ssarewrite_flagConstant_Ne.f a0).bind fun t145 => ((ssarewrite_flagConstant_Lt.f a0).bind fun t146 => ((ssarewrite_flagConstant_Le.f a0).bind fun t147 => ((ssarewrite_flagConstant_Gt.f a0).bind fun t148 => ((ssarewrite_flagConstant_Ge.f a0).bind fun t149 => ((ssarewrite_flagConstant_Ult.f a0).bind fun t150 => ((ssarewrite_flagConstant_Ule.f a0).bind fun t151 => ((ssarewrite_flagConstant_Ugt.f a0).bind fun t152 => ((ssarewrite_flagConstant_Uge.f a0).bind fun t153 => ((ssarewrite_flagConstant_LtNoov.f a0).bind fun t154 => ((ssarewrite_flagConstant_LeNoov.f a0).bind fun t155 => ((ssarewrite_flagConstant_GtNoov.f a0).bind fun t156 => ((ssarewrite_flagConstant_GeNoov.f a0).bind fun t157 => (some (t140, t141, t142, t143, t144, t145, t146, t147, t148, t149, t150, t151, t152, t153, t154, t155, t156, t157))))))))))))))) = some (r1, r2, r3, r4, r5, r6, r7, r8, r9, r10, r11, r12, r13, r14, r15, r16, r17, r18) := H
  have A6 := Aside0.mk A60
  clear A60
  replace H := Option.bind_eq_some_iff.mp H
  obtain ⟨t145, A70, H⟩ := H
  replace H : ((ssarewrite_flagConstant_Lt.f a0).bind fun t146 => ((ssarewrite_flagConstant_Le.f a0).bind fun t147 => ((ssarewrite_flagConstant_Gt.f a0).bind fun t148 => ((ssarewrite_flagConstant_Ge.f a0).bind fun t149 => ((ssarewrite_flagConstant_Ult.f a0).bind fun t150 => ((ssarewrite_flagConstant_Ule.f a0).bind fun t151 => ((ssarewrite_flagConstant_Ugt.f a0).bind fun t152 => ((ssarewrite_flagConstant_Uge.f a0).bind fun t153 => ((ssarewrite_flagConstant_LtNoov.f a0).bind fun t154 => ((ssarewrite_flagConstant_LeNoov.f a0).bind fun t155 => ((ssarewrite_flagConstant_GtNoov.f a0).bind fun t156 => ((ssarewrite_flagConstant_GeNoov.f a0).bind fun t157 => (some (t140, t141, t142, t143, t144, t145, t146, t147, t148, t149, t150, t151, t152, t153, t154, t155, t156, t157)))))))))))))) = some (r1, r2, r3, r4, r5, r6, r7, r8, r9, r10, r11, r12, r13, r14, r15, r16, r17, r18) := H
  have A7 := Aside0.mk A70
  clear A70
  replace H := Option.bind_eq_some_iff.mp H
  obtain ⟨t146, A80, H⟩ := H
  replace H : ((ssarewrite_flagConstant_Le.f a0).bind fun t147 => ((ssarewrite_flagConstant_Gt.f a0).bind fun t148 => ((ssarewrite_flagConstant_Ge.f a0).bind fun t149 => ((ssarewrite_flagConstant_Ult.f a0).bind fun t150 => ((ssarewrite_flagConstant_Ule.f a0).bind fun t151 => ((ssarewrite_flagConstant_Ugt.f a0).bind fun t152 => ((ssarewrite_flagConstant_Uge.f a0).bind fun t153 => ((ssarewrite_flagConstant_LtNoov.f a0).bind fun t154 => ((ssarewrite_flagConstant_LeNoov.f a0).bind fun t155 => ((ssarewrite_flagConstant_GtNoov.f a0).bind fun t156 => ((ssarewrite_flagConstant_GeNoov.f a0).bind fun t157 => (some (t140, t141, t142, t143, t144, t145, t146, t147, t148, t149, t150, t151, t152, t153, t154, t155, t156, t157))))))))))))) = some (r1, r2, r3, r4, r5, r6, r7, r8, r9, r10, r11, r12, r13, r14, r15, r16, r17, r18) := H
  have A8 := Aside0.mk A80
  clear A80
  replace H := Option.bind_eq_some_iff.mp H
  obtain ⟨t147, A90, H⟩ := H
  replace H : ((ssarewrite_flagConstant_Gt.f a0).bind fun t148 => ((ssarewrite_flagConstant_Ge.f a0).bind fun t149 => ((ssarewrite_flagConstant_Ult.f a0).bind fun t150 => ((ssarewrite_flagConstant_Ule.f a0).bind fun t151 => ((ssarewrite_flagConstant_Ugt.f a0).bind fun t152 => ((ssarewrite_flagConstant_Uge.f a0).bind fun t153 => ((ssarewrite_flagConstant_LtNoov.f a0).bind fun t154 => ((ssarewrite_flagConstant_LeNoov.f a0).bind fun t155 => ((ssarewrite_flagConstant_GtNoov.f a0).bind fun t156 => ((ssarewrite_flagConstant_GeNoov.f a0).bind fun t157 => (some (t140, t141, t142, t143, t144, t145, t146, t147, t148, t149, t150, t151, t152, t153, t154, t155, t156, t157)))))))))))) = some (r1, r2, r3, r4, r5, r6, r7, r8, r9, r10, r11, r12, r13, r14, r15, r16, r17, r18) := H
  have A9 := Aside0.mk A90
  clear A90
  replace H := Option.bind_eq_some_iff.mp H
  obtain ⟨t148, A100, H⟩ := H
  replace H : ((ssarewrite_flagConstant_Ge.f a0).bind fun t149 => ((ssarewrite_flagConstant_Ult.f a0).bind fun t150 => ((ssarewrite_flagConstant_Ule.f a0).bind fun t151 => ((ssarewrite_flagConstant_Ugt.f a0).bind fun t152 => ((ssarewrite_flagConstant_Uge.f a0).bind fun t153 => ((ssarewrite_flagConstant_LtNoov.f a0).bind fun t154 => ((ssarewrite_flagConstant_LeNoov.f a0).bind fun t155 => ((ssarewrite_flagConstant_GtNoov.f a0).bind fun t156 => ((ssarewrite_flagConstant_GeNoov.f a0).bind fun t157 => (some (t140, t141, t142, t143, t144, t145, t146, t147, t148, t149, t150, t151, t152, t153, t154, t155, t156, t157))))))))))) = some (r1, r2, r3, r4, r5, r6, r7, r8, r9, r10, r11, r12, r13, r14, r15, r16, r17, r18) := H
  have A10 := Aside0.mk A100
  clear A100
  replace H := Option.bind_eq_some_iff.mp H
  obtain ⟨t149, A110, H⟩ := H
  replace H : ((ssarewrite_flagConstant_Ult.f a0).bind fun t150 => ((ssarewrite_flagConstant_Ule.f a0).bind fun t151 => ((ssarewrite_flagConstant_Ugt.f a0).bind fun t152 => ((ssarewrite_flagConstant_Uge.f a0).bind fun t153 => ((ssarewrite_flagConstant_LtNoov.f a0).bind fun t154 => ((ssarewrite_flagConstant_LeNoov.f a0).bind fun t155 => ((ssarewrite_flagConstant_GtNoov.f a0).bind fun t156 => ((ssarewrite_flagConstant_GeNoov.f a0).bind fun t157 => (some (t140, t141, t142, t143, t144, t145, t146, t147, t148, t149, t150, t151, t152, t153, t154, t155, t156, t157)))))))))) = some (r1, r2, r3, r4, r5, r6, r7, r8, r9, r10, r11, r12, r13, r14, r15, r16, r17, r18) := H
  have A11 := Aside0.mk A110
  clear A110
  replace H := Option.bind_eq_some_iff.mp H
  obtain ⟨t150, A120, H⟩ := H
  replace H : ((ssarewrite_flagConstant_Ule.f a0).bind fun t151 => ((ssarewrite_flagConstant_Ugt.f a0).bind fun t152 => ((ssarewrite_flagConstant_Uge.f a0).bind fun t153 => ((ssarewrite_flagConstant_LtNoov.f a0).bind fun t154 => ((ssarewrite_flagConstant_LeNoov.f a0).bind fun t155 => ((ssarewrite_flagConstant_GtNoov.f a0).bind fun t156 => ((ssarewrite_flagConstant_GeNoov.f a0).bind fun t157 => (some (t140, t141, t142, t143, t144, t145, t146, t147, t148, t149, t150, t151, t152, t153, t154, t155, t156, t157))))))))) = some (r1, r2, r3, r4, r5, r6, r7, r8, r9, r10, r11, r12, r13, r14, r15, r16, r17, r18) := H
  have A12 := Aside0.mk A120
  clear A120
  replace H := Option.bind_eq_some_iff.mp H
  obtain ⟨t151, A130, H⟩ := H
  replace H : ((ssarewrite_flagConstant_Ugt.f a0).bind fun t152 => ((ssarewrite_flagConstant_Uge.f a0).bind fun t153 => ((ssarewrite_flagConstant_LtNoov.f a0).bind fun t154 => ((ssarewrite_flagConstant_LeNoov.f a0).bind fun t155 => ((ssarewrite_flagConstant_GtNoov.f a0).bind fun t156 => ((ssarewrite_flagConstant_GeNoov.f a0).bind fun t157 => (some (t140, t141, t142, t143, t144, t145, t146, t147, t148, t149, t150, t151, t152, t153, t154, t155, t156, t157)))))))) = some (r1, r2, r3, r4, r5, r6, r7, r8, r9, r10, r11, r12, r13, r14, r15, r16, r17, r18) := H
  have A13 := Aside0.mk A130
  clear A130
  replace H := Option.bind_eq_some_iff.mp H
  obtain ⟨t152, A140, H⟩ := H
  replace H : ((ssarewrite_flagConstant_Uge.f a0).bind fun t153 => ((ssarewrite_flagConstant_LtNoov.f a0).bind fun t154 => ((ssarewrite_flagConstant_LeNoov.f a0).bind fun t155 => ((ssarewrite_flagConstant_GtNoov.f a0).bind fun t156 => ((ssarewrite_flagConstant_GeNoov.f a0).bind fun t157 => (some (t140, t141, t142, t143, t144, t145, t146, t147, t148, t149, t150, t151, t152, t153, t154, t155, t156, t157))))))) = some (r1, r2, r3, r4, r5, r6, r7, r8, r9, r10, r11, r12, r13, r14, r15, r16, r17, r18) := H
  have A14 := Aside0.mk A140
  clear A140
  replace H := Option.bind_eq_some_iff.mp H
  obtain ⟨t153, A150, H⟩ := H
  replace H : ((ssarewrite_flagConstant_LtNoov.f a0).bind fun t154 => ((ssarewrite_flagConstant_LeNoov.f a0).bind fun t155 => ((ssarewrite_flagConstant_GtNoov.f a0).bind fun t156 => ((ssarewrite_flagConstant_GeNoov.f a0).bind fun t157 => (some (t140, t141, t142, t143, t144, t145, t146, t147, t148, t149, t150, t151, t152, t153, t154, t155, t156, t157)))))) = some (r1, r2, r3, r4, r5, r6, r7, r8, r9, r10, r11, r12, r13, r14, r15, r16, r17, r18) := H
  have A15 := Aside0.mk A150
  clear A150
  replace H := Option.bind_eq_some_iff.mp H
  obtain ⟨t154, A160, H⟩ := H
  replace H : ((ssarewrite_flagConstant_LeNoov.f a0).bind fun t155 => ((ssarewrite_flagConstant_GtNoov.f a0).bind fun t156 => ((ssarewrite_flagConstant_GeNoov.f a0).bind fun t157 => (some (t140, t141, t142, t143, t144, t145, t146, t147, t148, t149, t150, t151, t152, t153, t154, t155, t156, t157))))) = some (r1, r2, r3, r4, r5, r6, r7, r8, r9, r10, r11, r12, r13, r14, r15, r16, r17, r18) := H
  have A16 := Aside0.mk A160
  clear A160
  replace H := Option.bind_eq_some_iff.mp H
  obtain ⟨t155, A170, H⟩ := H
  replace H : ((ssarewrite_flagConstant_GtNoov.f a0).bind fun t156 => ((ssarewrite_flagConstant_GeNoov.f a0).bind fun t157 => (some (t140, t141, t142, t143, t144, t145, t146, t147, t148, t149, t150, t151, t152, t153, t154, t155, t156, t157)))) = some (r1, r2, r3, r4, r5, r6, r7, r8, r9, r10, r11, r12, r13, r14, r15, r16, r17, r18) := H
  have A17 := Aside0.mk A170
  clear A170
  replace H := Option.bind_eq_some_iff.mp H
  obtain ⟨t156, A180, H⟩ := H
  replace H : ((ssarewrite_flagConstant_GeNoov.f a0).bind fun t157 => (some (t140, t141, t142, t143, t144, t145, t146, t147, t148, t149, t150, t151, t152, t153, t154, t155, t156, t157))) = some (r1, r2, r3, r4, r5, r6, r7, r8, r9, r10, r11, r12, r13, r14, r15, r16, r17, r18) := H
  have A18 := Aside0.mk A180
  clear A180
  replace H := Option.bind_eq_some_iff.mp H
  obtain ⟨t157, A190, H⟩ := H
  replace H : (some (t140, t141, t142, t143, t144, t145, t146, t147, t148, t149, t150, t151, t152, t153, t154, t155, t156, t157)) = some (r1, r2, r3, r4, r5, r6, r7, r8, r9, r10, r11, r12, r13, r14, r15, r16, r17, r18) := H
  have A19 := Aside0.mk A190
  clear A190
  simp only [Option.some.injEq, Prod.mk.injEq] at H
  obtain ⟨rfl, rfl, rfl, rfl, rfl, rfl, rfl, rfl, rfl, rfl, rfl, rfl, rfl, rfl, rfl, rfl, rfl, rfl⟩ := H
  go_enter Try.func12, Try.ntmps12
  go_wp2_with (first | ((with_reducible refine gate_dst (N := 2) rfl ?_); refine box_event ?hg (N := 2) ?hd (cs := #[.bool false, .bool false, .bool false, .bool false, .bool false, .bool false, .bool false, .bool false, .bool false, .bool false, .bool false, .bool false, .bool false, .bool false, .bool false, .bool false, .bool false, .bool false]) (t := 23) ?hr ?_; (case hd => rfl); (case hg => rfl); (case hr => first | (go_simp; done) | (go_simp; rfl)); intro gb139 hg w20 hbox hb; have n0_ := Aside0.mk (below_step (by repeat (first | (with_reducible first | exact HB.out | apply below_alloc | apply pw_below_drewN | apply below_drew1) | exact HB.out)) hb); have n1_ := Aside0.mk (hbox); have n2_ := Aside0.mk ((by rw [hg]; exact (below_size (by repeat (first | (with_reducible first | exact HB.out | apply below_alloc | apply pw_below_drewN | apply below_drew1) | exact HB.out))) : w.heap.size ≤ gb139)); have n3_ := Aside0.mk ((by rw [hg]; exact (below_size (by repeat (first | (with_reducible first | exact HB.out | apply below_alloc | apply pw_below_drewN | apply below_drew1) | exact HB.out))) : w.heap.size ≤ gb139)); clear HB; have HB := n0_; have BK139 := n1_; have GW139 := n2_; have GE139 := n3_; clear n0_ n1_ n2_ n3_; clear hb hbox hg) | ((with_reducible refine gate_callee (f := 17) rfl ?_); refine goesL_ (some 4) rfl rfl Try.func17 (by kernel_rfl) rfl #[.int .u8 a0] rfl (by (try simp only [List.map_toArray, List.map_cons, List.map_nil]); first | done | rfl | (simp only [List.length_drop, List.length_take]; rfl)) ?_; (with_reducible refine (ssarewrite_flagConstant_N.calls a0 t140 _ A2.out).mono ?_); rintro e w' ⟨rfl, ⟨nd, rfl⟩⟩; refine ⟨_, rfl, ?_⟩; (try (rw [drewN_self w20]; generalize hq_ : World.drewN w20 _ = w20; have n0_ : Aside0 (w20.heap[gb139]? = some (.cells #[.bool false, .bool false, .bool false, .bool false, .bool false, .bool false, .bool false, .bool false, .bool false, .bool false, .bool false, .bool false, .bool false, .bool false, .bool false, .bool false, .bool false, .bool false] 23 (0, 0))) := ⟨by rw [← hq_]; exact (by (with_reducible repeat (first | refine blk_drewN ?_ _ | refine blk_drew ?_ | refine blk_alloc ?_ _)); exact BK139.out)⟩; have n1_ : Aside0 (Below w.heap.size w w20) := ⟨by rw [← hq_]; exact (by repeat (first | (with_reducible first | exact HB.out | apply below_alloc | apply pw_below_drewN | apply below_drew1 | refine below_set ?_ GE139.out) | exact HB.out))⟩; clear BK139 HB hq_; have BK139 := n0_; have HB := n1_; clear n0_ n1_))) | ((with_reducible refine gate_callee (f := 18) rfl ?_); refine goesL_ (some 6) rfl rfl Try.func18 (by kernel_rfl) rfl #[.int .u8 a0] rfl (by (try simp only [List.map_toArray, List.map_cons, List.map_nil]); first | done | rfl | (simp only [List.length_drop, List.length_take]; rfl)) ?_; (with_reducible refine (ssarewrite_flagConstant_Z.calls a0 t141 _ A3.out).mono ?_); rintro e w' ⟨rfl, ⟨nd, rfl⟩⟩; refine ⟨_, rfl, ?_⟩; (try (rw [drewN_self w20]; generalize hq_ : World.drewN w20 _ = w20; have n0_ : Aside0 (w20.heap[gb139]? = some (.cells #[.bool false, .bool false, .bool false, .bool false, .bool false, .bool false, .bool false, .bool false, .bool false, .bool false, .bool false, .bool false, .bool false, .bool false, .bool false, .bool false, .bool false, .bool false] 23 (0, 0))) := ⟨by rw [← hq_]; exact (by (with_reducible repeat (first | refine blk_drewN ?_ _ | refine blk_drew ?_ | refine blk_alloc ?_ _)); exact BK139.out)⟩; have n1_ : Aside0 (Below w.heap.size w w20) := ⟨by rw [← hq_]; exact (by repeat (first | (with_reducible first | exact HB.out | apply below_alloc | apply pw_below_drewN | apply below_drew1 | refine below_set ?_ GE139.out) | exact HB.out))⟩; clear BK139 HB hq_; have BK139 := n0_; have HB := n1_; clear n0_ n1_))) | ((with_reducible refine gate_callee (f := 19) rfl ?_); refine goesL_ (some 8) rfl rfl Try.func19 (by kernel_rfl) rfl #[.int .u8 a0] rfl (by (try simp only [List.map_toArray, List.map_cons, List.map_nil]); first | done | rfl | (simp only [List.length_drop, List.length_take]; rfl)) ?_; (with_reducible refine (ssarewrite_flagConstant_C.calls a0 t142 _ A4.out).mono ?_); rintro e w' ⟨rfl, ⟨nd, rfl⟩⟩; refine ⟨_, rfl, ?_⟩; (try (rw [drewN_self w20]; generalize hq_ : World.drewN w20 _ = w20; have n0_ : Aside0 (w20.heap[gb139]? = some (.cells #[.bool false, .bool false, .bool false, .bool false, .bool false, .bool false, .bool false, .bool false, .bool false, .bool false, .bool false, .bool false, .bool false, .bool false, .bool false, .bool false, .bool false, .bool false] 23 (0, 0))) := ⟨by rw [← hq_]; exact (by (with_reducible repeat (first | refine blk_drewN ?_ _ | refine blk_drew ?_ | refine blk_alloc ?_ _)); exact BK139.out)⟩; have n1_ : Aside0 (Below w.heap.size w w20) := ⟨by rw [← hq_]; exact (by repeat (first | (with_reducible first | exact HB.out | apply below_alloc | apply pw_below_drewN | apply below_drew1 | refine below_set ?_ GE139.out) | exact HB.out))⟩; clear BK139 HB hq_; have BK139 := n0_; have HB := n1_; clear n0_ n1_))) | ((with_reducible refine gate_callee (f := 20) rfl ?_); refine goesL_ (some 10) rfl rfl Try.func20 (by kernel_rfl) rfl #[.int .u8 a0] rfl (by (try simp only [List.map_toArray, List.map_cons, List.map_nil]); first | done | rfl | (simp only [List.length_drop, List.length_take]; rfl)) ?_; (with_reducible refine (ssarewrite_flagConstant_V.calls a0 t143 _ A5.out).mono ?_); rintro e w' ⟨rfl, ⟨nd, rfl⟩⟩; refine ⟨_, rfl, ?_⟩; (try (rw [drewN_self w20]; generalize hq_ : World.drewN w20 _ = w20; have n0_ : Aside0 (w20.heap[gb139]? = some (.cells #[.bool false, .bool false, .bool false, .bool false, .bool false, .bool false, .bool false, .bool false, .bool false, .bool false, .bool false, .bool false, .bool false, .bool false, .bool false, .bool false, .bool false, .bool false] 23 (0, 0))) := ⟨by rw [← hq_]; exact (by (with_reducible repeat (first | refine blk_drewN ?_ _ | refine blk_drew ?_ | refine blk_alloc ?_ _)); exact BK139.out)⟩; have n1_ : Aside0 (Below w.heap.size w w20) := ⟨by rw [← hq_]; exact (by repeat (first | (with_reducible first | exact HB.out | apply below_alloc | apply pw_below_drewN | apply below_drew1 | refine below_set ?_ GE139.out) | exact HB.out))⟩; clear BK139 HB hq_; have BK139 := n0_; have HB := n1_; clear n0_ n1_))) | ((with_reducible refine gate_callee (f := 21) rfl ?_); refine goesL_ (some 12) rfl rfl Try.func21 (by kernel_rfl) rfl #[.int .u8 a0] rfl (by (try simp only [List.map_toArray, List.map_cons, List.map_nil]); first | done | rfl | (simp only [List.length_drop, List.length_take]; rfl)) ?_; (with_reducible refine (ssarewrite_flagConstant_Eq.calls a0 t144 _ A6.out).mono ?_); rintro e w' ⟨rfl, ⟨nd, rfl⟩⟩; refine ⟨_, rfl, ?_⟩; (try (rw [drewN_self w20]; generalize hq_ : World.drewN w20 _ = w20; have n0_ : Aside0 (w20.heap[gb139]? = some (.cells #[.bool false, .bool false, .bool false, .bool false, .bool false, .bool false, .bool false, .bool false, .bool false, .bool false, .bool false, .bool false, .bool false, .bool false, .bool false, .bool false, .bool false, .bool false] 23 (0, 0))) := ⟨by rw [← hq_]; exact (by (with_reducible repeat (first | refine blk_drewN ?_ _ | refine blk_drew ?_ | refine blk_alloc ?_ _)); exact BK139.out)⟩; have n1_ : Aside0 (Below w.heap.size w w20) := ⟨by rw [← hq_]; exact (by repeat (first | (with_reducible first | exact HB.out | apply below_alloc | apply pw_below_drewN | apply below_drew1 | refine below_set ?_ GE139.out) | exact HB.out))⟩; clear BK139 HB hq_; have BK139 := n0_; have HB := n1_; clear n0_ n1_))) | ((with_reducible refine gate_callee (f := 22) rfl ?_); refine goesL_ (some 14) rfl rfl Try.func22 (by kernel_rfl) rfl #[.int .u8 a0] rfl (by (try simp only [List.map_toArray, List.map_cons, List.map_nil]); first | done | rfl | (simp only [List.length_drop, List.length_take]; rfl)) ?_; (with_reducible refine (ssarewrite_flagConstant_Ne.calls a0 t145 _ A7.out).mono ?_); rintro e w' ⟨rfl, ⟨nd, rfl⟩⟩; refine ⟨_, rfl, ?_⟩; (try (rw [drewN_self w20]; generalize hq_ : World.drewN w20 _ = w20; have n0_ : Aside0 (w20.heap[gb139]? = some (.cells #[.bool false, .bool false, .bool false, .bool false, .bool false, .bool false, .bool false, .bool false, .bool false, .bool false, .bool false, .bool false, .bool false, .bool false, .bool false, .bool false, .bool false, .bool false] 23 (0, 0))) := ⟨by rw [← hq_]; exact (by (with_reducible repeat (first | refine blk_drewN ?_ _ | refine blk_drew ?_ | refine blk_alloc ?_ _)); exact BK139.out)⟩; have n1_ : Aside0 (Below w.heap.size w w20) := ⟨by rw [← hq_]; exact (by repeat (first | (with_reducible first | exact HB.out | apply below_alloc | apply pw_below_drewN | apply below_drew1 | refine below_set ?_ GE139.out) | exact HB.out))⟩; clear BK139 HB hq_; have BK139 := n0_; have HB := n1_; clear n0_ n1_))) | ((with_reducible refine gate_callee (f := 23) rfl ?_); refine goesL_ (some 16) rfl rfl Try.func23 (by kernel_rfl) rfl #[.int .u8 a0] rfl (by (try simp only [List.map_toArray, List.map_cons, List.map_nil]); first | done | rfl | (simp only [List.length_drop, List.length_take]; rfl)) ?_; (with_reducible refine (ssarewrite_flagConstant_Lt.calls a0 t146 _ A8.out).mono ?_); rintro e w' ⟨rfl, ⟨nd, rfl⟩⟩; refine ⟨_, rfl, ?_⟩; (try (rw [drewN_self w20]; generalize hq_ : World.drewN w20 _ = w20; have n0_ : Aside0 (w20.heap[gb139]? = some (.cells #[.bool false, .bool false, .bool false, .bool false, .bool false, .bool false, .bool false, .bool false, .bool false, .bool false, .bool false, .bool false, .bool false, .bool false, .bool false, .bool false, .bool false, .bool false] 23 (0, 0))) := ⟨by rw [← hq_]; exact (by (with_reducible repeat (first | refine blk_drewN ?_ _ | refine blk_drew ?_ | refine blk_alloc ?_ _)); exact BK139.out)⟩; have n1_ : Aside0 (Below w.heap.size w w20) := ⟨by rw [← hq_]; exact (by repeat (first | (with_reducible first | exact HB.out | apply below_alloc | apply pw_below_drewN | apply below_drew1 | refine below_set ?_ GE139.out) | exact HB.out))⟩; clear BK139 HB hq_; have BK139 := n0_; have HB := n1_; clear n0_ n1_))) | ((with_reducible refine gate_callee (f := 24) rfl ?_); refine goesL_ (some 18) rfl rfl Try.func24 (by kernel_rfl) rfl #[.int .u8 a0] rfl (by (try simp only [List.map_toArray, List.map_cons, List.map_nil]); first | done | rfl | (simp only [List.length_drop, List.length_take]; rfl)) ?_; (with_reducible refine (ssarewrite_flagConstant_Le.calls a0 t147 _ A9.out).mono ?_); rintro e w' ⟨rfl, ⟨nd, rfl⟩⟩; refine ⟨_, rfl, ?_⟩; (try (rw [drewN_self w20]; generalize hq_ : World.drewN w20 _ = w20; have n0_ : Aside0 (w20.heap[gb139]? = some (.cells #[.bool false, .bool false, .bool false, .bool false, .bool false, .bool false, .bool false, .bool false, .bool false, .bool false, .bool false, .bool false, .bool false, .bool false, .bool false, .bool false, .bool false, .bool false] 23 (0, 0))) := ⟨by rw [← hq_]; exact (by (with_reducible repeat (first | refine blk_drewN ?_ _ | refine blk_drew ?_ | refine blk_alloc ?_ _)); exact BK139.out)⟩; have n1_ : Aside0 (Below w.heap.size w w20) := ⟨by rw [← hq_]; exact (by repeat (first | (with_reducible first | exact HB.out | apply below_alloc | apply pw_below_drewN | apply below_drew1 | refine below_set ?_ GE139.out) | exact HB.out))⟩; clear BK139 HB hq_; have BK139 := n0_; have HB := n1_; clear n0_ n1_))) | ((with_reducible refine gate_callee (f := 25) rfl ?_); refine goesL_ (some 20) rfl rfl Try.func25 (by kernel_rfl) rfl #[.int .u8 a0] rfl (by (try simp only [List.map_toArray, List.map_cons, List.map_nil]); first | done | rfl | (simp only [List.length_drop, List.length_take]; rfl)) ?_; (with_reducible refine (ssarewrite_flagConstant_Gt.calls a0 t148 _ A10.out).mono ?_); rintro e w' ⟨rfl, ⟨nd, rfl⟩⟩; refine ⟨_, rfl, ?_⟩; (try (rw [drewN_self w20]; generalize hq_ : World.drewN w20 _ = w20; have n0_ : Aside0 (w20.heap[gb139]? = some (.cells #[.bool false, .bool false, .bool false, .bool false, .bool false, .bool false, .bool false, .bool false, .bool false, .bool false, .bool false, .bool false, .bool false, .bool false, .bool false, .bool false, .bool false, .bool false] 23 (0, 0))) := ⟨by rw [← hq_]; exact (by (with_reducible repeat (first | refine blk_drewN ?_ _ | refine blk_drew ?_ | refine blk_alloc ?_ _)); exact BK139.out)⟩; have n1_ : Aside0 (Below w.heap.size w w20) := ⟨by rw [← hq_]; exact (by repeat (first | (with_reducible first | exact HB.out | apply below_alloc | apply pw_below_drewN | apply below_drew1 | refine below_set ?_ GE139.out) | exact HB.out))⟩; clear BK139 HB hq_; have BK139 := n0_; have HB := n1_; clear n0_ n1_))) | ((with_reducible refine gate_callee (f := 26) rfl ?_); refine goesL_ (some 22) rfl rfl Try.func26 (by kernel_rfl) rfl #[.int .u8 a0] rfl (by (try simp only [List.map_toArray, List.map_cons, List.map_nil]); first | done | rfl | (simp only [List.length_drop, List.length_take]; rfl)) ?_; (with_reducible refine (ssarewrite_flagConstant_Ge.calls a0 t149 _ A11.out).mono ?_); rintro e w' ⟨rfl, ⟨nd, rfl⟩⟩; refine ⟨_, rfl, ?_⟩; (try (rw [drewN_self w20]; generalize hq_ : World.drewN w20 _ = w20; have n0_ : Aside0 (w20.heap[gb139]? = some (.cells #[.bool false, .bool false, .bool false, .bool false, .bool false, .bool false, .bool false, .bool false, .bool false, .bool false, .bool false, .bool false, .bool false, .bool false, .bool false, .bool false, .bool false, .bool false] 23 (0, 0))) := ⟨by rw [← hq_]; exact (by (with_reducible repeat (first | refine blk_drewN ?_ _ | refine blk_drew ?_ | refine blk_alloc ?_ _)); exact BK139.out)⟩; have n1_ : Aside0 (Below w.heap.size w w20) := ⟨by rw [← hq_]; exact (by repeat (first | (with_reducible first | exact HB.out | apply below_alloc | apply pw_below_drewN | apply below_drew1 | refine below_set ?_ GE139.out) | exact HB.out))⟩; clear BK139 HB hq_; have BK139 := n0_; have HB := n1_; clear n0_ n1_))) | ((with_reducible refine gate_callee (f := 27) rfl ?_); refine goesL_ (some 24) rfl rfl Try.func27 (by kernel_rfl) rfl #[.int .u8 a0] rfl (by (try simp only [List.map_toArray, List.map_cons, List.map_nil]); first | done | rfl | (simp only [List.length_drop, List.length_take]; rfl)) ?_; (with_reducible refine (ssarewrite_flagConstant_Ult.calls a0 t150 _ A12.out).mono ?_); rintro e w' ⟨rfl, ⟨nd, rfl⟩⟩; refine ⟨_, rfl, ?_⟩; (try (rw [drewN_self w20]; generalize hq_ : World.drewN w20 _ = w20; have n0_ : Aside0 (w20.heap[gb139]? = some (.cells #[.bool false, .bool false, .bool false, .bool false, .bool false, .bool false, .bool false, .bool false, .bool false, .bool false, .bool false, .bool false, .bool false, .bool false, .bool false, .bool false, .bool false, .bool false] 23 (0, 0))) := ⟨by rw [← hq_]; exact (by (with_reducible repeat (first | refine blk_drewN ?_ _ | refine blk_drew ?_ | refine blk_alloc ?_ _)); exact BK139.out)⟩; have n1_ : Aside0 (Below w.heap.size w w20) := ⟨by rw [← hq_]; exact (by repeat (first | (with_reducible first | exact HB.out | apply below_alloc | apply pw_below_drewN | apply below_drew1 | refine below_set ?_ GE139.out) | exact HB.out))⟩; clear BK139 HB hq_; have BK139 := n0_; have HB := n1_; clear n0_ n1_))) | ((with_reducible refine gate_callee (f := 28) rfl ?_); refine goesL_ (some 26) rfl rfl Try.func28 (by kernel_rfl) rfl #[.int .u8 a0] rfl (by (try simp only [List.map_toArray, List.map_cons, List.map_nil]); first | done | rfl | (simp only [List.length_drop, List.length_take]; rfl)) ?_; (with_reducible refine (ssarewrite_flagConstant_Ule.calls a0 t151 _ A13.out).mono ?_); rintro e w' ⟨rfl, ⟨nd, rfl⟩⟩; refine ⟨_, rfl, ?_⟩; (try (rw [drewN_self w20]; generalize hq_ : World.drewN w20 _ = w20; have n0_ : Aside0 (w20.heap[gb139]? = some (.cells #[.bool false, .bool false, .bool false, .bool false, .bool false, .bool false, .bool false, .bool false, .bool false, .bool false, .bool false, .bool false, .bool false, .bool false, .bool false, .bool false, .bool false, .bool false] 23 (0, 0))) := ⟨by rw [← hq_]; exact (by (with_reducible repeat (first | refine blk_drewN ?_ _ | refine blk_drew ?_ | refine blk_alloc ?_ _)); exact BK139.out)⟩; have n1_ : Aside0 (Below w.heap.size w w20) := ⟨by rw [← hq_]; exact (by repeat (first | (with_reducible first | exact HB.out | apply below_alloc | apply pw_below_drewN | apply below_drew1 | refine below_set ?_ GE139.out) | exact HB.out))⟩; clear BK139 HB hq_; have BK139 := n0_; have HB := n1_; clear n0_ n1_))) | ((with_reducible refine gate_callee (f := 29) rfl ?_); refine goesL_ (some 28) rfl rfl Try.func29 (by kernel_rfl) rfl #[.int .u8 a0] rfl (by (try simp only [List.map_toArray, List.map_cons, List.map_nil]); first | done | rfl | (simp only [List.length_drop, List.length_take]; rfl)) ?_; (with_reducible refine (ssarewrite_flagConstant_Ugt.calls a0 t152 _ A14.out).mono ?_); rintro e w' ⟨rfl, ⟨nd, rfl⟩⟩; refine ⟨_, rfl, ?_⟩; (try (rw [drewN_self w20]; generalize hq_ : World.drewN w20 _ = w20; have n0_ : Aside0 (w20.heap[gb139]? = some (.cells #[.bool false, .bool false, .bool false, .bool false, .bool false, .bool false, .bool false, .bool false, .bool false, .bool false, .bool false, .bool false, .bool false, .bool false, .bool false, .bool false, .bool false, .bool false] 23 (0, 0))) := ⟨by rw [← hq_]; exact (by (with_reducible repeat (first | refine blk_drewN ?_ _ | refine blk_drew ?_ | refine blk_alloc ?_ _)); exact BK139.out)⟩; have n1_ : Aside0 (Below w.heap.size w w20) := ⟨by rw [← hq_]; exact (by repeat (first | (with_reducible first | exact HB.out | apply below_alloc | apply pw_below_drewN | apply below_drew1 | refine below_set ?_ GE139.out) | exact HB.out))⟩; clear BK139 HB hq_; have BK139 := n0_; have HB := n1_; clear n0_ n1_))) | ((with_reducible refine gate_callee (f := 30) rfl ?_); refine goesL_ (some 30) rfl rfl Try.func30 (by kernel_rfl) rfl #[.int .u8 a0] rfl (by (try simp only [List.map_toArray, List.map_cons, List.map_nil]); first | done | rfl | (simp only [List.length_drop, List.length_take]; rfl)) ?_; (with_reducible refine (ssarewrite_flagConstant_Uge.calls a0 t153 _ A15.out).mono ?_); rintro e w' ⟨rfl, ⟨nd, rfl⟩⟩; refine ⟨_, rfl, ?_⟩; (try (rw [drewN_self w20]; generalize hq_ : World.drewN w20 _ = w20; have n0_ : Aside0 (w20.heap[gb139]? = some (.cells #[.bool false, .bool false, .bool false, .bool false, .bool false, .bool false, .bool false, .bool false, .bool false, .bool false, .bool false, .bool false, .bool false, .bool false, .bool false, .bool false, .bool false, .bool false] 23 (0, 0))) := ⟨by rw [← hq_]; exact (by (with_reducible repeat (first | refine blk_drewN ?_ _ | refine blk_drew ?_ | refine blk_alloc ?_ _)); exact BK139.out)⟩; have n1_ : Aside0 (Below w.heap.size w w20) := ⟨by rw [← hq_]; exact (by repeat (first | (with_reducible first | exact HB.out | apply below_alloc | apply pw_below_drewN | apply below_drew1 | refine below_set ?_ GE139.out) | exact HB.out))⟩; clear BK139 HB hq_; have BK139 := n0_; have HB := n1_; clear n0_ n1_))) | ((with_reducible refine gate_callee (f := 31) rfl ?_); refine goesL_ (some 32) rfl rfl Try.func31 (by kernel_rfl) rfl #[.int .u8 a0] rfl (by (try simp only [List.map_toArray, List.map_cons, List.map_nil]); first | done | rfl | (simp only [List.length_drop, List.length_take]; rfl)) ?_; (with_reducible refine (ssarewrite_flagConstant_LtNoov.calls a0 t154 _ A16.out).mono ?_); rintro e w' ⟨rfl, ⟨nd, rfl⟩⟩; refine ⟨_, rfl, ?_⟩; (try (rw [drewN_self w20]; generalize hq_ : World.drewN w20 _ = w20; have n0_ : Aside0 (w20.heap[gb139]? = some (.cells #[.bool false, .bool false, .bool false, .bool false, .bool false, .bool false, .bool false, .bool false, .bool false, .bool false, .bool false, .bool false, .bool false, .bool false, .bool false, .bool false, .bool false, .bool false] 23 (0, 0))) := ⟨by rw [← hq_]; exact (by (with_reducible repeat (first | refine blk_drewN ?_ _ | refine blk_drew ?_ | refine blk_alloc ?_ _)); exact BK139.out)⟩; have n1_ : Aside0 (Below w.heap.size w w20) := ⟨by rw [← hq_]; exact (by repeat (first | (with_reducible first | exact HB.out | apply below_alloc | apply pw_below_drewN | apply below_drew1 | refine below_set ?_ GE139.out) | exact HB.out))⟩; clear BK139 HB hq_; have BK139 := n0_; have HB := n1_; clear n0_ n1_))) | ((with_reducible refine gate_callee (f := 32) rfl ?_); refine goesL_ (some 34) rfl rfl Try.func32 (by kernel_rfl) rfl #[.int .u8 a0] rfl (by (try simp only [List.map_toArray, List.map_cons, List.map_nil]); first | done | rfl | (simp only [List.length_drop, List.length_take]; rfl)) ?_; (with_reducible refine (ssarewrite_flagConstant_LeNoov.calls a0 t155 _ A17.out).mono ?_); rintro e w' ⟨rfl, ⟨nd, rfl⟩⟩; refine ⟨_, rfl, ?_⟩; (try (rw [drewN_self w20]; generalize hq_ : World.drewN w20 _ = w20; have n0_ : Aside0 (w20.heap[gb139]? = some (.cells #[.bool false, .bool false, .bool false, .bool false, .bool false, .bool false, .bool false, .bool false, .bool false, .bool false, .bool false, .bool false, .bool false, .bool false, .bool false, .bool false, .bool false, .bool false] 23 (0, 0))) := ⟨by rw [← hq_]; exact (by (with_reducible repeat (first | refine blk_drewN ?_ _ | refine blk_drew ?_ | refine blk_alloc ?_ _)); exact BK139.out)⟩; have n1_ : Aside0 (Below w.heap.size w w20) := ⟨by rw [← hq_]; exact (by repeat (first | (with_reducible first | exact HB.out | apply below_alloc | apply pw_below_drewN | apply below_drew1 | refine below_set ?_ GE139.out) | exact HB.out))⟩; clear BK139 HB hq_; have BK139 := n0_; have HB := n1_; clear n0_ n1_))) | ((with_reducible refine gate_callee (f := 33) rfl ?_); refine goesL_ (some 36) rfl rfl Try.func33 (by kernel_rfl) rfl #[.int .u8 a0] rfl (by (try simp only [List.map_toArray, List.map_cons, List.map_nil]); first | done | rfl | (simp only [List.length_drop, List.length_take]; rfl)) ?_; (with_reducible refine (ssarewrite_flagConstant_GtNoov.calls a0 t156 _ A18.out).mono ?_); rintro e w' ⟨rfl, ⟨nd, rfl⟩⟩; refine ⟨_, rfl, ?_⟩; (try (rw [drewN_self w20]; generalize hq_ : World.drewN w20 _ = w20; have n0_ : Aside0 (w20.heap[gb139]? = some (.cells #[.bool false, .bool false, .bool false, .bool false, .bool false, .bool false, .bool false, .bool false, .bool false, .bool false, .bool false, .bool false, .bool false, .bool false, .bool false, .bool false, .bool false, .bool false] 23 (0, 0))) := ⟨by rw [← hq_]; exact (by (with_reducible repeat (first | refine blk_drewN ?_ _ | refine blk_drew ?_ | refine blk_alloc ?_ _)); exact BK139.out)⟩; have n1_ : Aside0 (Below w.heap.size w w20) := ⟨by rw [← hq_]; exact (by repeat (first | (with_reducible first | exact HB.out | apply below_alloc | apply pw_below_drewN | apply below_drew1 | refine below_set ?_ GE139.out) | exact HB.out))⟩; clear BK139 HB hq_; have BK139 := n0_; have HB := n1_; clear n0_ n1_))) | ((with_reducible refine gate_callee (f := 34) rfl ?_); refine goesL_ (some 38) rfl rfl Try.func34 (by kernel_rfl) rfl #[.int .u8 a0] rfl (by (try simp only [List.map_toArray, List.map_cons, List.map_nil]); first | done | rfl | (simp only [List.length_drop, List.length_take]; rfl)) ?_; (with_reducible refine (ssarewrite_flagConstant_GeNoov.calls a0 t157 _ A19.out).mono ?_); rintro e w' ⟨rfl, ⟨nd, rfl⟩⟩; refine ⟨_, rfl, ?_⟩; (try (rw [drewN_self w20]; generalize hq_ : World.drewN w20 _ = w20; have n0_ : Aside0 (w20.heap[gb139]? = some (.cells #[.bool false, .bool false, .bool false, .bool false, .bool false, .bool false, .bool false, .bool false, .bool false, .bool false, .bool false, .bool false, .bool false, .bool false, .bool false, .bool false, .bool false, .bool false] 23 (0, 0))) := ⟨by rw [← hq_]; exact (by (with_reducible repeat (first | refine blk_drewN ?_ _ | refine blk_drew ?_ | refine blk_alloc ?_ _)); exact BK139.out)⟩; have n1_ : Aside0 (Below w.heap.size w w20) := ⟨by rw [← hq_]; exact (by repeat (first | (with_reducible first | exact HB.out | apply below_alloc | apply pw_below_drewN | apply below_drew1 | refine below_set ?_ GE139.out) | exact HB.out))⟩; clear BK139 HB hq_; have BK139 := n0_; have HB := n1_; clear n0_ n1_)); have hcz21_0 : w20.cell? ⟨gb139, 0, none⟩ = some (.bool false) := (blk_cell BK139.out 0).trans rfl; have hcz21_1 : w20.cell? ⟨gb139, 1, none⟩ = some (.bool false) := (blk_cell BK139.out 1).trans rfl; have hcz21_2 : w20.cell? ⟨gb139, 2, none⟩ = some (.bool false) := (blk_cell BK139.out 2).trans rfl; have hcz21_3 : w20.cell? ⟨gb139, 3, none⟩ = some (.bool false) := (blk_cell BK139.out 3).trans rfl; have hcz21_4 : w20.cell? ⟨gb139, 4, none⟩ = some (.bool false) := (blk_cell BK139.out 4).trans rfl; have hcz21_5 : w20.cell? ⟨gb139, 5, none⟩ = some (.bool false) := (blk_cell BK139.out 5).trans rfl; have hcz21_6 : w20.cell? ⟨gb139, 6, none⟩ = some (.bool false) := (blk_cell BK139.out 6).trans rfl; have hcz21_7 : w20.cell? ⟨gb139, 7, none⟩ = some (.bool false) := (blk_cell BK139.out 7).trans rfl; have hcz21_8 : w20.cell? ⟨gb139, 8, none⟩ = some (.bool false) := (blk_cell BK139.out 8).trans rfl; have hcz21_9 : w20.cell? ⟨gb139, 9, none⟩ = some (.bool false) := (blk_cell BK139.out 9).trans rfl; have hcz21_10 : w20.cell? ⟨gb139, 10, none⟩ = some (.bool false) := (blk_cell BK139.out 10).trans rfl; have hcz21_11 : w20.cell? ⟨gb139, 11, none⟩ = some (.bool false) := (blk_cell BK139.out 11).trans rfl; have hcz21_12 : w20.cell? ⟨gb139, 12, none⟩ = some (.bool false) := (blk_cell BK139.out 12).trans rfl; have hcz21_13 : w20.cell? ⟨gb139, 13, none⟩ = some (.bool false) := (blk_cell BK139.out 13).trans rfl; have hcz21_14 : w20.cell? ⟨gb139, 14, none⟩ = some (.bool false) := (blk_cell BK139.out 14).trans rfl; have hcz21_15 : w20.cell? ⟨gb139, 15, none⟩ = some (.bool false) := (blk_cell BK139.out 15).trans rfl; have hcz21_16 : w20.cell? ⟨gb139, 16, none⟩ = some (.bool false) := (blk_cell BK139.out 16).trans rfl; have hcz21_17 : w20.cell? ⟨gb139, 17, none⟩ = some (.bool false) := (blk_cell BK139.out 17).trans rfl; have hfz21_0 := blk_frozen BK139.out 0; have hfz21_1 := blk_frozen BK139.out 1; have hfz21_2 := blk_frozen BK139.out 2; have hfz21_3 := blk_frozen BK139.out 3; have hfz21_4 := blk_frozen BK139.out 4; have hfz21_5 := blk_frozen BK139.out 5; have hfz21_6 := blk_frozen BK139.out 6; have hfz21_7 := blk_frozen BK139.out 7; have hfz21_8 := blk_frozen BK139.out 8; have hfz21_9 := blk_frozen BK139.out 9; have hfz21_10 := blk_frozen BK139.out 10; have hfz21_11 := blk_frozen BK139.out 11; have hfz21_12 := blk_frozen BK139.out 12; have hfz21_13 := blk_frozen BK139.out 13; have hfz21_14 := blk_frozen BK139.out 14; have hfz21_15 := blk_frozen BK139.out 15; have hfz21_16 := blk_frozen BK139.out 16; have hfz21_17 := blk_frozen BK139.out 17))
  refine bodyPost_ret (results_cell_row rfl _ _ gb139 23 #[.bool t140, .bool t141, .bool t142, .bool t143, .bool t144, .bool t145, .bool t146, .bool t147, .bool t148, .bool t149, .bool t150, .bool t151, .bool t152, .bool t153, .bool t154, .bool t155, .bool t156, .bool t157] (0, 0) _ rfl (by (with_reducible repeat (first | refine blk_drewN ?_ _ | refine blk_drew ?_ | refine blk_alloc ?_ _)); refine blk_put (cs := #[.bool t140, .bool t141, .bool t142, .bool t143, .bool t144, .bool t145, .bool t146, .bool t147, .bool t148, .bool t149, .bool t150, .bool t151, .bool t152, .bool t153, .bool t154, .bool t155, .bool t156, .bool false]) ?_ 17 _ rfl; (with_reducible repeat (first | refine blk_drewN ?_ _ | refine blk_drew ?_ | refine blk_alloc ?_ _)); refine blk_put (cs := #[.bool t140, .bool t141, .bool t142, .bool t143, .bool t144, .bool t145, .bool t146, .bool t147, .bool t148, .bool t149, .bool t150, .bool t151, .bool t152, .bool t153, .bool t154, .bool t155, .bool false, .bool false]) ?_ 16 _ rfl; (with_reducible repeat (first | refine blk_drewN ?_ _ | refine blk_drew ?_ | refine blk_alloc ?_ _)); refine blk_put (cs := #[.bool t140, .bool t141, .bool t142, .bool t143, .bool t144, .bool t145, .bool t146, .bool t147, .bool t148, .bool t149, .bool t150, .bool t151, .bool t152, .bool t153, .bool t154, .bool false, .bool false, .bool false]) ?_ 15 _ rfl; (with_reducible repeat (first | refine blk_drewN ?_ _ | refine blk_drew ?_ | refine blk_alloc ?_ _)); refine blk_put (cs := #[.bool t140, .bool t141, .bool t142, .bool t143, .bool t144, .bool t145, .bool t146, .bool t147, .bool t148, .bool t149, .bool t150, .bool t151, .bool t152, .bool t153, .bool false, .bool false, .bool false, .bool false]) ?_ 14 _ rfl; (with_reducible repeat (first | refine blk_drewN ?_ _ | refine blk_drew ?_ | refine blk_alloc ?_ _)); refine blk_put (cs := #[.bool t140, .bool t141, .bool t142, .bool t143, .bool t144, .bool t145, .bool t146, .bool t147, .bool t148, .bool t149, .bool t150, .bool t151, .bool t152, .bool false, .bool false, .bool false, .bool false, .bool false]) ?_ 13 _ rfl; (with_reducible repeat (first | refine blk_drewN ?_ _ | refine blk_drew ?_ | refine blk_alloc ?_ _)); refine blk_put (cs := #[.bool t140, .bool t141, .bool t142, .bool t143, .bool t144, .bool t145, .bool t146, .bool t147, .bool t148, .bool t149, .bool t150, .bool t151, .bool false, .bool false, .bool false, .bool false, .bool false, .bool false]) ?_ 12 _ rfl; (with_reducible repeat (first | refine blk_drewN ?_ _ | refine blk_drew ?_ | refine blk_alloc ?_ _)); refine blk_put (cs := #[.bool t140, .bool t141, .bool t142, .bool t143, .bool t144, .bool t145, .bool t146, .bool t147, .bool t148, .bool t149, .bool t150, .bool false, .bool false, .bool false, .bool false, .bool false, .bool false, .bool false]) ?_ 11 _ rfl; (with_reducible repeat (first | refine blk_drewN ?_ _ | refine blk_drew ?_ | refine blk_alloc ?_ _)); refine blk_put (cs := #[.bool t140, .bool t141, .bool t142, .bool t143, .bool t144, .bool t145, .bool t146, .bool t147, .bool t148, .bool t149, .bool false, .bool false, .bool false, .bool false, .bool false, .bool false, .bool false, .bool false]) ?_ 10 _ rfl; (with_reducible repeat (first | refine blk_drewN ?_ _ | refine blk_drew ?_ | refine blk_alloc ?_ _)); refine blk_put (cs := #[.bool t140, .bool t141, .bool t142, .bool t143, .bool t144, .bool t145, .bool t146, .bool t147, .bool t148, .bool false, .bool false, .bool false, .bool false, .bool false, .bool false, .bool false, .bool false, .bool false]) ?_ 9 _ rfl; (with_reducible repeat (first | refine blk_drewN ?_ _ | refine blk_drew ?_ | refine blk_alloc ?_ _)); refine blk_put (cs := #[.bool t140, .bool t141, .bool t142, .bool t143, .bool t144, .bool t145, .bool t146, .bool t147, .bool false, .bool false, .bool false, .bool false, .bool false, .bool false, .bool false, .bool false, .bool false, .bool false]) ?_ 8 _ rfl; (with_reducible repeat (first | refine blk_drewN ?_ _ | refine blk_drew ?_ | refine blk_alloc ?_ _)); refine blk_put (cs := #[.bool t140, .bool t141, .bool t142, .bool t143, .bool t144, .bool t145, .bool t146, .bool false, .bool false, .bool false, .bool false, .bool false, .bool false, .bool false, .bool false, .bool false, .bool false, .bool false]) ?_ 7 _ rfl; (with_reducible repeat (first | refine blk_drewN ?_ _ | refine blk_drew ?_ | refine blk_alloc ?_ _)); refine blk_put (cs := #[.bool t140, .bool t141, .bool t142, .bool t143, .bool t144, .bool t145, .bool false, .bool false, .bool false, .bool false, .bool false, .bool false, .bool false, .bool false, .bool false, .bool false, .bool false, .bool false]) ?_ 6 _ rfl; (with_reducible repeat (first | refine blk_drewN ?_ _ | refine blk_drew ?_ | refine blk_alloc ?_ _)); refine blk_put (cs := #[.bool t140, .bool t141, .bool t142, .bool t143, .bool t144, .bool false, .bool false, .bool false, .bool false, .bool false, .bool false, .bool false, .bool false, .bool false, .bool false, .bool false, .bool false, .bool false]) ?_ 5 _ rfl; (with_reducible repeat (first | refine blk_drewN ?_ _ | refine blk_drew ?_ | refine blk_alloc ?_ _)); refine blk_put (cs := #[.bool t140, .bool t141, .bool t142, .bool t143, .bool false, .bool false, .bool false, .bool false, .bool false, .bool false, .bool false, .bool false, .bool false, .bool false, .bool false, .bool false, .bool false, .bool false]) ?_ 4 _ rfl; (with_reducible repeat (first | refine blk_drewN ?_ _ | refine blk_drew ?_ | refine blk_alloc ?_ _)); refine blk_put (cs := #[.bool t140, .bool t141, .bool t142, .bool false, .bool false, .bool false, .bool false, .bool false, .bool false, .bool false, .bool false, .bool false, .bool false, .bool false, .bool false, .bool false, .bool false, .bool false]) ?_ 3 _ rfl; (with_reducible repeat (first | refine blk_drewN ?_ _ | refine blk_drew ?_ | refine blk_alloc ?_ _)); refine blk_put (cs := #[.bool t140, .bool t141, .bool false, .bool false, .bool false, .bool false, .bool false, .bool false, .bool false, .bool false, .bool false, .bool false, .bool false, .bool false, .bool false, .bool false, .bool false, .bool false]) ?_ 2 _ rfl; (with_reducible repeat (first | refine blk_drewN ?_ _ | refine blk_drew ?_ | refine blk_alloc ?_ _)); refine blk_put (cs := #[.bool t140, .bool false, .bool false, .bool false, .bool false, .bool false, .bool false, .bool false, .bool false, .bool false, .bool false, .bool false, .bool false, .bool false, .bool false, .bool false, .bool false, .bool false]) ?_ 1 _ rfl; (with_reducible repeat (first | refine blk_drewN ?_ _ | refine blk_drew ?_ | refine blk_alloc ?_ _)); refine blk_put (cs := #[.bool false, .bool false, .bool false, .bool false, .bool false, .bool false, .bool false, .bool false, .bool false, .bool false, .bool false, .bool false, .bool false, .bool false, .bool false, .bool false, .bool false, .bool false]) ?_ 0 _ rfl; (with_reducible repeat (first | refine blk_drewN ?_ _ | refine blk_drew ?_ | refine blk_alloc ?_ _)); exact BK139.out) Try.underlying23 rfl (by kernel_rfl)) rfl ?_
  exact ⟨by first | rfl | (simp [errW_none, errW_some] <;> rfl) | (simp [*, errW_none, errW_some] <;> rfl), by repeat (first | (with_reducible first | exact HB.out | apply below_alloc | apply pw_below_drewN | apply below_drew1 | refine below_set ?_ GE139.out) | exact HB.out)⟩

end Go.Proofs.Ytdchpmohaiiicaa.PFnSubFlags32
