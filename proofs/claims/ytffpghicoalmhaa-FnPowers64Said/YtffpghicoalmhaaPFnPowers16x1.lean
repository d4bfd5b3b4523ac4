-- PRINTED BY print.sh 35421559b90ae4d0a3588c463048766b98c2df88dd9212a6774a882060cdf62d: not written by this session
import Derived.Test.YtffpghicoalmhaaPFnPowers16x0
namespace Go.Proofs.Ytffpghicoalmhaa.PFnPowers16
open Go.RowKit Go.Proofs.YtffpghicoalmhaaW.PrintWords Go.Proofs.YtffpghicoalmhaaW.PrintLast Go.Proofs.YtffpghicoalmhaaW.PrintMore
attribute [local go_sem] max2_int min2_int max_two min_two max_three min_three max_four min_four   -- for this text's walks alone
set_option linter.unusedVariables false
set_option linter.unusedSimpArgs false

/-! ### ssarewrite_isPowerOfTwo_int16: function 60 -/
def ssarewrite_isPowerOfTwo_int16.f (a0 : Int) : Option (Bool) := if a0 > 0 then (some ((Go.bits .and .i16 a0 (IntKind.i16.wrap (a0 - 1))) == 0)) else (some false)
set_option maxHeartbeats 8000000 in
set_option maxRecDepth 100000 in
theorem ssarewrite_isPowerOfTwo_int16.calls (a0 : Int) (r : Bool) (w : World) (h : ssarewrite_isPowerOfTwo_int16.f a0 = some r) :
    Calls Try.prog 60 #[.int .i16 a0] w fun e w' => e = .returned (.bool r) ∧ Drawn0 w w' := by
  have H : (if a0 > 0 then (some ((Go.bits .and .i16 a0 (IntKind.i16.wrap (a0 - 1))) == 0)) else (some false)) = some r := h
  clear h
  by_cases c2 : a0 > 0
  · rw [if_pos c2] at H
    have c2b0 : decide (0 < a0) = true := decide_eq_true c2
    clear c2
    obtain rfl := Option.some.inj H
    go_enter Try.func60, Try.ntmps60
    go_wp2
    go_ret
    exact ⟨by first | rfl | (simp; done) | (simp [*]; done), by repeat (first | exact Drawn0.refl _ | apply Drawn0.step)⟩
  · rw [if_neg c2] at H
    have c2b0 : decide (0 < a0) = false := decide_eq_false c2
    clear c2
    obtain rfl := Option.some.inj H
    go_enter Try.func60, Try.ntmps60
    go_wp2
    go_ret
    exact ⟨by first | rfl | (simp; done) | (simp [*]; done), by repeat (first | exact Drawn0.refl _ | apply Drawn0.step)⟩

/-! ### ssarewrite_ZZIsPowerOfTwo_int16: function 43 -/
def ssarewrite_ZZIsPowerOfTwo_int16.f (a0 : Int) : Option (Bool) := (ssarewrite_isPowerOfTwo_int16.f a0).bind fun t101 => (some t101)
set_option maxHeartbeats 8000000 in
set_option maxRecDepth 100000 in
theorem ssarewrite_ZZIsPowerOfTwo_int16.calls (a0 : Int) (r : Bool) (w : World) (h : ssarewrite_ZZIsPowerOfTwo_int16.f a0 = some r) :
    Calls Try.prog 43 #[.int .i16 a0] w fun e w' => e = .returned (.bool r) ∧ Drawn0 w w' := by
  have H : ((ssarewrite_isPowerOfTwo_int16.f a0).bind fun t101 => (some t101)) = some r := h
  clear h
  replace H := Option.bind_eq_some_iff.mp H
  obtain ⟨t101, A20, H⟩ := H
  replace H : (some t101) = some r := H
  have A2 := Aside0.mk A20
  clear A20
  obtain rfl := Option.some.inj H
  go_enter Try.func43, Try.ntmps43
  go_wp2_with (first | ((with_reducible refine gate_callee (f := 60) rfl ?_); refine goesL_ (some 4) rfl rfl Try.func60 (by kernel_rfl) rfl #[.int .i16 a0] rfl (by (try simp only [List.map_toArray, List.map_cons, List.map_nil]); first | done | rfl | (simp only [List.length_drop, List.length_take]; rfl)) ?_; (with_reducible refine (ssarewrite_isPowerOfTwo_int16.calls a0 t101 _ A2.out).mono ?_); rintro e w' ⟨rfl, ⟨nd, rfl⟩⟩; refine ⟨_, rfl, ?_⟩))
  go_ret
  exact ⟨by first | rfl | (simp; done) | (simp [*]; done), by repeat (first | exact Drawn0.refl _ | apply Drawn0.step)⟩

/-! ### impl_IsPower16: function 18 -/
def impl_IsPower16.f (a0 : Int) : Option (Bool) := (ssarewrite_ZZIsPowerOfTwo_int16.f a0).bind fun t102 => (some t102)
set_option maxHeartbeats 8000000 in
set_option maxRecDepth 100000 in
theorem impl_IsPower16.calls (a0 : Int) (r : Bool) (w : World) (h : impl_IsPower16.f a0 = some r) :
    Calls Try.prog 18 #[.int .i16 a0] w fun e w' => e = .returned (.bool r) ∧ Drawn0 w w' := by
  have H : ((ssarewrite_ZZIsPowerOfTwo_int16.f a0).bind fun t102 => (some t102)) = some r := h
  clear h
  replace H := Option.bind_eq_some_iff.mp H
  obtain ⟨t102, A20, H⟩ := H
  replace H : (some t102) = some r := H
  have A2 := Aside0.mk A20
  clear A20
  obtain rfl := Option.some.inj H
  go_enter Try.func18, Try.ntmps18
  go_wp2_with (first | ((with_reducible refine gate_callee (f := 43) rfl ?_); refine goesL_ (some 4) rfl rfl Try.func43 (by kernel_rfl) rfl #[.int .i16 a0] rfl (by (try simp only [List.map_toArray, List.map_cons, List.map_nil]); first | done | rfl | (simp only [List.length_drop, List.length_take]; rfl)) ?_; (with_reducible refine (ssarewrite_ZZIsPowerOfTwo_int16.calls a0 t102 _ A2.out).mono ?_); rintro e w' ⟨rfl, ⟨nd, rfl⟩⟩; refine ⟨_, rfl, ?_⟩))
  go_ret
  exact ⟨by first | rfl | (simp; done) | (simp [*]; done), by repeat (first | exact Drawn0.refl _ | apply Drawn0.step)⟩

/-! ### spec_IsPower: function 19 -/
def spec_IsPower.l0 : Nat → Int → Int → Option (Bool)
  | 0, _, _ => none
  | k + 1, x0, x4 => if x4 < 64 then (if 0 ≤ x4 then (if x0 = (shl .u64 1 x4) then (some true) else (spec_IsPower.l0 k x0 (wrap64 (x4 + 1)))) else (none)) else (some false)
def spec_IsPower.f (k : Nat) (a0 : Int) : Option (Bool) := spec_IsPower.l0 k a0 0
theorem spec_IsPower.mono_l : ∀ k, (∀ y0 y1, LeO (spec_IsPower.l0 k y0 y1) (spec_IsPower.l0 (k + 1) y0 y1))
  | 0 => fun _ _ r h => by simp [spec_IsPower.l0] at h
  | k + 1 => by
    have ih0 := spec_IsPower.mono_l k
    · intro y0 y1
      unfold spec_IsPower.l0
      repeat' first
      | (with_reducible exact ih0 _ _)
      | (with_reducible exact LeO.refl _)
      | (with_reducible exact LeO.none _)
      | (with_reducible refine LeO.ite ?_ ?_)
      | (with_reducible refine LeO.bind ?_ (fun _ => ?_))
      | exact ih0 _ _
      | exact LeO.none _
      | refine LeO.ite ?_ ?_
      | refine LeO.bind ?_ (fun _ => ?_)
theorem spec_IsPower.mono : ∀ a0 k, LeO (spec_IsPower.f k a0) (spec_IsPower.f (k + 1) a0) := by
  intro a0 k
  have ih0 := spec_IsPower.mono_l k
  unfold spec_IsPower.f
  repeat' first
      | (with_reducible exact ih0 _ _)
      | (with_reducible exact LeO.refl _)
      | (with_reducible exact LeO.none _)
      | (with_reducible refine LeO.ite ?_ ?_)
      | (with_reducible refine LeO.bind ?_ (fun _ => ?_))
      | exact ih0 _ _
      | exact LeO.none _
      | refine LeO.ite ?_ ?_
      | refine LeO.bind ?_ (fun _ => ?_)
set_option maxHeartbeats 8000000 in
set_option maxRecDepth 100000 in
theorem spec_IsPower.calls (k : Nat) (a0 : Int) (r : Bool) (w : World) (h : spec_IsPower.f k a0 = some r) :
    Calls Try.prog 19 #[.int .u64 a0] w fun e w' => e = .returned (.bool r) ∧ Drawn0 w w' := by
  have H : (spec_IsPower.l0 k a0 0) = some r := h
  clear h
  have H' := Aside0.mk H
  clear H
  go_enter Try.func19, Try.ntmps19
  go_wp2
  go_loopg [4] k (fun kq v4 w' => ∃ (x4_1 : Int), v4 = .int .i64 x4_1 ∧ Aside0 (spec_IsPower.l0 kq a0 x4_1 = some r) ∧ Aside0 (kq ≤ k) ∧ Drawn0 w w')
  case atStart => exact ⟨(0), (by first | rfl | (simp; done) | (simp [*]; done)), H', ⟨Nat.le_refl _⟩, by repeat (first | exact Drawn0.refl _ | apply Drawn0.step)⟩
  case round =>
    clear H'
    try clear c1
    obtain ⟨x4_1, rfl, HA, HK1, ⟨m1, rfl⟩⟩ := hrel
    cases gk with
    | zero => exact absurd HA.out (by simp [spec_IsPower.l0])
    | succ k1 =>
      have H := HA.out
      clear HA
      simp only [spec_IsPower.l0] at H
      by_cases c2 : x4_1 < 64
      · rw [if_pos c2] at H
        have c2b0 : decide (x4_1 < 64) = true := decide_eq_true c2
        clear c2
        by_cases c3 : 0 ≤ x4_1
        · rw [if_pos c3] at H
          have c3b0 := eq_true c3
          have c3b1 : decide (0 ≤ x4_1) = true := decide_eq_true c3
          clear c3
          obtain ⟨ji4, hji4⟩ : ∃ j_ : Int, (shl .u64 1 x4_1) = j_ := ⟨_, rfl⟩
          replace H : (if a0 = (ji4) then (some true) else (spec_IsPower.l0 k1 a0 (wrap64 (x4_1 + 1)))) = some r := by first | (rw [hji4] at H; exact H) | (simp only [hji4] at H ⊢; exact H)
          have hji4_ : (IntKind.u64.wrap (1 * 2 ^ min x4_1.toNat 64)) = ji4 := hji4
          have hji4z : x4_1 ≤ 64 → (IntKind.u64.wrap (1 * 2 ^ x4_1.toNat)) = ji4 := shl_small hji4
          have hji4u : (IntKind.u64.wrap (2 ^ min x4_1.toNat 64)) = ji4 := by have h_ := hji4_; rw [Int.one_mul] at h_; exact h_
          have hji4v : x4_1 ≤ 64 → (IntKind.u64.wrap (2 ^ x4_1.toNat)) = ji4 := fun hle_ => by have h_ := hji4z hle_; rw [Int.one_mul] at h_; exact h_
          by_cases c5 : a0 = (ji4)
          · rw [if_pos c5] at H
            have c5b0 : (a0 == (ji4)) = true := beq_iff_eq.mpr c5
            have c5b1 : (a0 != (ji4)) = false := bne_eq_false_iff_eq.mpr c5
            clear c5
            obtain rfl := Option.some.inj H
            go_wp2
            go_ret
            exact ⟨by first | rfl | (simp; done) | (simp only [← hji4] <;> (first | rfl | simp)) | (simp [*]; done), by repeat (first | exact Drawn0.refl _ | apply Drawn0.step)⟩
          · rw [if_neg c5] at H
            have c5b0 : (a0 == (ji4)) = false := beq_eq_false_iff_ne.mpr c5
            have c5b1 : (a0 != (ji4)) = true := bne_iff_ne.mpr c5
            have H' := Aside0.mk H
            clear H
            go_wp2
            go_roundg k1
            case measure => have := HK1.out; omega
            case rel => exact ⟨(wrap64 (x4_1 + 1)), (by first | rfl | (simp; done) | (simp [*]; done)), H', ⟨by have := HK1.out; omega⟩, by repeat (first | exact Drawn0.refl _ | apply Drawn0.step)⟩
        · rw [if_neg c3] at H
          exact absurd H (by simp)
      · rw [if_neg c2] at H
        have c2b0 : decide (x4_1 < 64) = false := decide_eq_false c2
        clear c2
        obtain rfl := Option.some.inj H
        go_wp2
        go_ret
        exact ⟨by first | rfl | (simp; done) | (simp [*]; done), by repeat (first | exact Drawn0.refl _ | apply Drawn0.step)⟩

/-! ### ssarewrite_isPowerOfTwo_uint16: function 61 -/
def ssarewrite_isPowerOfTwo_uint16.f (a0 : Int) : Option (Bool) := if a0 > 0 then (some ((Go.bits .and .u16 a0 (IntKind.u16.wrap (a0 - 1))) == 0)) else (some false)
set_option maxHeartbeats 8000000 in
set_option maxRecDepth 100000 in
theorem ssarewrite_isPowerOfTwo_uint16.calls (a0 : Int) (r : Bool) (w : World) (h : ssarewrite_isPowerOfTwo_uint16.f a0 = some r) :
    Calls Try.prog 61 #[.int .u16 a0] w fun e w' => e = .returned (.bool r) ∧ Drawn0 w w' := by
  have H : (if a0 > 0 then (some ((Go.bits .and .u16 a0 (IntKind.u16.wrap (a0 - 1))) == 0)) else (some false)) = some r := h
  clear h
  by_cases c2 : a0 > 0
  · rw [if_pos c2] at H
    have c2b0 : decide (0 < a0) = true := decide_eq_true c2
    clear c2
    obtain rfl := Option.some.inj H
    go_enter Try.func61, Try.ntmps61
    go_wp2
    go_ret
    exact ⟨by first | rfl | (simp; done) | (simp [*]; done), by repeat (first | exact Drawn0.refl _ | apply Drawn0.step)⟩
  · rw [if_neg c2] at H
    have c2b0 : decide (0 < a0) = false := decide_eq_false c2
    clear c2
    obtain rfl := Option.some.inj H
    go_enter Try.func61, Try.ntmps61
    go_wp2
    go_ret
    exact ⟨by first | rfl | (simp; done) | (simp [*]; done), by repeat (first | exact Drawn0.refl _ | apply Drawn0.step)⟩

/-! ### ssarewrite_ZZIsPowerOfTwo_uint16: function 44 -/
def ssarewrite_ZZIsPowerOfTwo_uint16.f (a0 : Int) : Option (Bool) := (ssarewrite_isPowerOfTwo_uint16.f a0).bind fun t103 => (some t103)
set_option maxHeartbeats 8000000 in
set_option maxRecDepth 100000 in
theorem ssarewrite_ZZIsPowerOfTwo_uint16.calls (a0 : Int) (r : Bool) (w : World) (h : ssarewrite_ZZIsPowerOfTwo_uint16.f a0 = some r) :
    Calls Try.prog 44 #[.int .u16 a0] w fun e w' => e = .returned (.bool r) ∧ Drawn0 w w' := by
  have H : ((ssarewrite_isPowerOfTwo_uint16.f a0).bind fun t103 => (some t103)) = some r := h
  clear h
  replace H := Option.bind_eq_some_iff.mp H
  obtain ⟨t103, A20, H⟩ := H
  replace H : (some t103) = some r := H
  have A2 := Aside0.mk A20
  clear A20
  obtain rfl := Option.some.inj H
  go_enter Try.func44, Try.ntmps44
  go_wp2_with (first | ((with_reducible refine gate_callee (f := 61) rfl ?_); refine goesL_ (some 4) rfl rfl Try.func61 (by kernel_rfl) rfl #[.int .u16 a0] rfl (by (try simp only [List.map_toArray, List.map_cons, List.map_nil]); first | done | rfl | (simp only [List.length_drop, List.length_take]; rfl)) ?_; (with_reducible refine (ssarewrite_isPowerOfTwo_uint16.calls a0 t103 _ A2.out).mono ?_); rintro e w' ⟨rfl, ⟨nd, rfl⟩⟩; refine ⟨_, rfl, ?_⟩))
  go_ret
  exact ⟨by first | rfl | (simp; done) | (simp [*]; done), by repeat (first | exact Drawn0.refl _ | apply Drawn0.step)⟩

/-! ### impl_IsPower16u: function 20 -/
def impl_IsPower16u.f (a0 : Int) : Option (Bool) := (ssarewrite_ZZIsPowerOfTwo_uint16.f a0).bind fun t104 => (some t104)
set_option maxHeartbeats 8000000 in
set_option maxRecDepth 100000 in
theorem impl_IsPower16u.calls (a0 : Int) (r : Bool) (w : World) (h : impl_IsPower16u.f a0 = some r) :
    Calls Try.prog 20 #[.int .u16 a0] w fun e w' => e = .returned (.bool r) ∧ Drawn0 w w' := by
  have H : ((ssarewrite_ZZIsPowerOfTwo_uint16.f a0).bind fun t104 => (some t104)) = some r := h
  clear h
  replace H := Option.bind_eq_some_iff.mp H
  obtain ⟨t104, A20, H⟩ := H
  replace H : (some t104) = some r := H
  have A2 := Aside0.mk A20
  clear A20
  obtain rfl := Option.some.inj H
  go_enter Try.func20, Try.ntmps20
  go_wp2_with (first | ((with_reducible refine gate_callee (f := 44) rfl ?_); refine goesL_ (some 4) rfl rfl Try.func44 (by kernel_rfl) rfl #[.int .u16 a0] rfl (by (try simp only [List.map_toArray, List.map_cons, List.map_nil]); first | done | rfl | (simp only [List.length_drop, List.length_take]; rfl)) ?_; (with_reducible refine (ssarewrite_ZZIsPowerOfTwo_uint16.calls a0 t104 _ A2.out).mono ?_); rintro e w' ⟨rfl, ⟨nd, rfl⟩⟩; refine ⟨_, rfl, ?_⟩))
  go_ret
  exact ⟨by first | rfl | (simp; done) | (simp [*]; done), by repeat (first | exact Drawn0.refl _ | apply Drawn0.step)⟩

/-! ### laws_FnPowers16: function 5 -/
def laws_FnPowers16.f (k : Nat) (a0 : Int) : Option (Bool) := (impl_IsPower16.f a0).bind fun t105 => (if a0 > 0 then ((spec_IsPower.f k (IntKind.u64.wrap (a0))).bind fun t106 => (if (t105 == t106) = true then ((impl_IsPower16u.f (IntKind.u16.wrap (a0))).bind fun t107 => ((spec_IsPower.f k (IntKind.u64.wrap (IntKind.u16.wrap (a0)))).bind fun t108 => (if (t107 == t108) = true then ((impl_IsPower16.f 8).bind fun t109 => (some t109)) else (some false)))) else (some false))) else (if (t105 == false) = true then ((impl_IsPower16u.f (IntKind.u16.wrap (a0))).bind fun t110 => ((spec_IsPower.f k (IntKind.u64.wrap (IntKind.u16.wrap (a0)))).bind fun t111 => (if (t110 == t111) = true then ((impl_IsPower16.f 8).bind fun t112 => (some t112)) else (some false)))) else (some false)))
theorem laws_FnPowers16.mono : ∀ a0 k, LeO (laws_FnPowers16.f k a0) (laws_FnPowers16.f (k + 1) a0) := by
  intro a0 k
  unfold laws_FnPowers16.f
  repeat' first
      | (with_reducible exact spec_IsPower.mono _ _)
      | (with_reducible exact LeO.refl _)
      | (with_reducible exact LeO.none _)
      | (with_reducible refine LeO.ite ?_ ?_)
      | (with_reducible refine LeO.bind ?_ (fun _ => ?_))
      | exact spec_IsPower.mono _ _
      | exact LeO.none _
      | refine LeO.ite ?_ ?_
      | refine LeO.bind ?_ (fun _ => ?_)
set_option maxHeartbeats 8000000 in
set_option maxRecDepth 100000 in
theorem laws_FnPowers16.calls (k : Nat) (a0 : Int) (r : Bool) (w : World) (h : laws_FnPowers16.f k a0 = some r) :
    Calls Try.prog 5 #[.int .i16 a0] w fun e w' => e = .returned (.bool r) ∧ Drawn0 w w' := by
  have H : ((impl_IsPower16.f a0).bind fun t105 => (if a0 > 0 then ((spec_IsPower.f k (IntKind.u64.wrap (a0))).bind fun t106 => (if (t105 == t106) = true then ((impl_IsPower16u.f (IntKind.u16.wrap (a0))).bind fun t107 => ((spec_IsPower.f k (IntKind.u64.wrap (IntKind.u16.wrap (a0)))).bind fun t108 => (if (t107 == t108) = true then ((impl_IsPower16.f 8).bind fun t109 => (some t109)) else (some false)))) else (some false))) else (if (t105 == false) = true then ((impl_IsPower16u.f (IntKind.u16.wrap (a0))).bind fun t110 => ((spec_IsPower.f k (IntKind.u64.wrap (IntKind.u16.wrap (a0)))).bind fun t111 => (if (t110 == t111) = true then ((impl_IsPower16.f 8).bind fun t112 => (some t112)) else (some false)))) else (some false)))) = some r := h
  clear h
  replace H := Option.bind_eq_some_iff.mp H
  obtain ⟨t105, A20, H⟩ := H
  replace H : (if a0 > 0 then ((spec_IsPower.f k (IntKind.u64.wrap (a0))).bind fun t106 => (if (t105 == t106) = true then ((impl_IsPower16u.f (IntKind.u16.wrap (a0))).bind fun t107 => ((spec_IsPower.f k (IntKind.u64.wrap (IntKind.u16.wrap (a0)))).bind fun t108 => (if (t107 == t108) = true then ((impl_IsPower16.f 8).bind fun t109 => (some t109)) else (some false)))) else (some false))) else (if (t105 == false) = true then ((impl_IsPower16u.f (IntKind.u16.wrap (a0))).bind fun t110 => ((spec_IsPower.f k (IntKind.u64.wrap (IntKind.u16.wrap (a0)))).bind fun t111 => (if (t110 == t111) = true then ((impl_IsPower16.f 8).bind fun t112 => (some t112)) else (some false)))) else (some false))) = some r := H
  have A2 := Aside0.mk A20
  clear A20
  by_cases c3 : a0 > 0
  · rw [if_pos c3] at H
    have c3b0 : decide (0 < a0) = true := decide_eq_true c3
    clear c3
    replace H := Option.bind_eq_some_iff.mp H
    obtain ⟨t106, A40, H⟩ := H
    replace H : (if (t105 == t106) = true then ((impl_IsPower16u.f (IntKind.u16.wrap (a0))).bind fun t107 => ((spec_IsPower.f k (IntKind.u64.wrap (IntKind.u16.wrap (a0)))).bind fun t108 => (if (t107 == t108) = true then ((impl_IsPower16.f 8).bind fun t109 => (some t109)) else (some false)))) else (some false)) = some r := H
    have A4 := Aside0.mk A40
    clear A40
    by_cases c5 : (t105 == t106) = true
    · rw [if_pos c5] at H
      have c5b0 : (t105 == t106) = true := c5
      (try (have c5b1 : decide (t105 = t106) = true := by simpa using c5))
      (try (have c5b2 : (t105 == t106) = true := by simpa using c5))
      clear c5
      replace H := Option.bind_eq_some_iff.mp H
      obtain ⟨t107, A60, H⟩ := H
      replace H : ((spec_IsPower.f k (IntKind.u64.wrap (IntKind.u16.wrap (a0)))).bind fun t108 => (if (t107 == t108) = true then ((impl_IsPower16.f 8).bind fun t109 => (some t109)) else (some false))) = some r := H
      have A6 := Aside0.mk A60
      clear A60
      replace H := Option.bind_eq_some_iff.mp H
      obtain ⟨t108, A70, H⟩ := H
      replace H : (if (t107 == t108) = true then ((impl_IsPower16.f 8).bind fun t109 => (some t109)) else (some false)) = some r := H
      have A7 := Aside0.mk A70
      clear A70
      by_cases c8 : (t107 == t108) = true
      · rw [if_pos c8] at H
        have c8b0 : (t107 == t108) = true := c8
        (try (have c8b1 : decide (t107 = t108) = true := by simpa using c8))
        (try (have c8b2 : (t107 == t108) = true := by simpa using c8))
        clear c8
        replace H := Option.bind_eq_some_iff.mp H
        obtain ⟨t109, A90, H⟩ := H
        replace H : (some t109) = some r := H
        have A9 := Aside0.mk A90
        clear A90
        obtain rfl := Option.some.inj H
        go_enter Try.func5, Try.ntmps5
        go_wp2_with (first | ((with_reducible refine gate_callee (f := 18) rfl ?_); refine goesL_ (some 4) rfl rfl Try.func18 (by kernel_rfl) rfl #[.int .i16 a0] rfl (by (try simp only [List.map_toArray, List.map_cons, List.map_nil]); first | done | rfl | (simp only [List.length_drop, List.length_take]; rfl)) ?_; (with_reducible refine (impl_IsPower16.calls a0 t105 _ A2.out).mono ?_); rintro e w' ⟨rfl, ⟨nd, rfl⟩⟩; refine ⟨_, rfl, ?_⟩) | (go_at_call 19; (with_reducible refine (spec_IsPower.calls k (IntKind.u64.wrap (a0)) t106 _ A4.out).mono ?_); rintro e w' ⟨rfl, ⟨nd, rfl⟩⟩) | (go_at_call 20; (with_reducible refine (impl_IsPower16u.calls (IntKind.u16.wrap (a0)) t107 _ A6.out).mono ?_); rintro e w' ⟨rfl, ⟨nd, rfl⟩⟩) | (go_at_call 19; (with_reducible refine (spec_IsPower.calls k (IntKind.u64.wrap (IntKind.u16.wrap (a0))) t108 _ A7.out).mono ?_); rintro e w' ⟨rfl, ⟨nd, rfl⟩⟩) | (go_at_call 18; (with_reducible refine (impl_IsPower16.calls 8 t109 _ A9.out).mono ?_); rintro e w' ⟨rfl, ⟨nd, rfl⟩⟩))
        go_ret
        exact ⟨by first | rfl | (simp; done) | (simp [*]; done), by repeat (first | exact Drawn0.refl _ | apply Drawn0.step)⟩
      · rw [if_neg c8] at H
        have c8b0 : (t107 == t108) = false := by simpa using c8
        (try (have c8b1 : decide (t107 = t108) = false := by simpa using c8))
        (try (have c8b2 : (t107 == t108) = false := by simpa using c8))
        (try (have c8b3 : ¬ (t107 = t108) := by simpa using c8))
        clear c8
        obtain rfl := Option.some.inj H
        go_enter Try.func5, Try.ntmps5
        go_wp2_with (first | ((with_reducible refine gate_callee (f := 18) rfl ?_); refine goesL_ (some 4) rfl rfl Try.func18 (by kernel_rfl) rfl #[.int .i16 a0] rfl (by (try simp only [List.map_toArray, List.map_cons, List.map_nil]); first | done | rfl | (simp only [List.length_drop, List.length_take]; rfl)) ?_; (with_reducible refine (impl_IsPower16.calls a0 t105 _ A2.out).mono ?_); rintro e w' ⟨rfl, ⟨nd, rfl⟩⟩; refine ⟨_, rfl, ?_⟩) | (go_at_call 19; (with_reducible refine (spec_IsPower.calls k (IntKind.u64.wrap (a0)) t106 _ A4.out).mono ?_); rintro e w' ⟨rfl, ⟨nd, rfl⟩⟩) | (go_at_call 20; (with_reducible refine (impl_IsPower16u.calls (IntKind.u16.wrap (a0)) t107 _ A6.out).mono ?_); rintro e w' ⟨rfl, ⟨nd, rfl⟩⟩) | (go_at_call 19; (with_reducible refine (spec_IsPower.calls k (IntKind.u64.wrap (IntKind.u16.wrap (a0))) t108 _ A7.out).mono ?_); rintro e w' ⟨rfl, ⟨nd, rfl⟩⟩))
        go_ret
        exact ⟨by first | rfl | (simp; done) | (simp [*]; done), by repeat (first | exact Drawn0.refl _ | apply Drawn0.step)⟩
    · rw [if_neg c5] at H
      have c5b0 : (t105 == t106) = false := by simpa using c5
      (try (have c5b1 : decide (t105 = t106) = false := by simpa using c5))
      (try (have c5b2 : (t105 == t106) = false := by simpa using c5))
      (try (have c5b3 : ¬ (t105 = t106) := by simpa using c5))
      clear c5
      obtain rfl := Option.some.inj H
      go_enter Try.func5, Try.ntmps5
      go_wp2_with (first | ((with_reducible refine gate_callee (f := 18) rfl ?_); refine goesL_ (some 4) rfl rfl Try.func18 (by kernel_rfl) rfl #[.int .i16 a0] rfl (by (try simp only [List.map_toArray, List.map_cons, List.map_nil]); first | done | rfl | (simp only [List.length_drop, List.length_take]; rfl)) ?_; (with_reducible refine (impl_IsPower16.calls a0 t105 _ A2.out).mono ?_); rintro e w' ⟨rfl, ⟨nd, rfl⟩⟩; refine ⟨_, rfl, ?_⟩) | (go_at_call 19; (with_reducible refine (spec_IsPower.calls k (IntKind.u64.wrap (a0)) t106 _ A4.out).mono ?_); rintro e w' ⟨rfl, ⟨nd, rfl⟩⟩))
      go_ret
      exact ⟨by first | rfl | (simp; done) | (simp [*]; done), by repeat (first | exact Drawn0.refl _ | apply Drawn0.step)⟩
  · rw [if_neg c3] at H
    have c3b0 : decide (0 < a0) = false := decide_eq_false c3
    clear c3
    by_cases c10 : (t105 == false) = true
    · rw [if_pos c10] at H
      have c10b0 : (t105 == false) = true := c10
      (try (have c10b1 : decide (t105 = false) = true := by simpa using c10))
      (try (have c10b2 : (t105 == false) = true := by simpa using c10))
      clear c10
      replace H := Option.bind_eq_some_iff.mp H
      obtain ⟨t110, A110, H⟩ := H
      replace H : ((spec_IsPower.f k (IntKind.u64.wrap (IntKind.u16.wrap (a0)))).bind fun t111 => (if (t110 == t111) = true then ((impl_IsPower16.f 8).bind fun t112 => (some t112)) else (some false))) = some r := H
      have A11 := Aside0.mk A110
      clear A110
      replace H := Option.bind_eq_some_iff.mp H
      obtain ⟨t111, A120, H⟩ := H
      replace H : (if (t110 == t111) = true then ((impl_IsPower16.f 8).bind fun t112 => (some t112)) else (some false)) = some r := H
      have A12 := Aside0.mk A120
      clear A120
      by_cases c13 : (t110 == t111) = true
      · rw [if_pos c13] at H
        have c13b0 : (t110 == t111) = true := c13
        (try (have c13b1 : decide (t110 = t111) = true := by simpa using c13))
        (try (have c13b2 : (t110 == t111) = true := by simpa using c13))
        clear c13
        replace H := Option.bind_eq_some_iff.mp H
        obtain ⟨t112, A140, H⟩ := H
        replace H : (some t112) = some r := H
        have A14 := Aside0.mk A140
        clear A140
        obtain rfl := Option.some.inj H
        go_enter Try.func5, Try.ntmps5
        go_wp2_with (first | ((with_reducible refine gate_callee (f := 18) rfl ?_); refine goesL_ (some 4) rfl rfl Try.func18 (by kernel_rfl) rfl #[.int .i16 a0] rfl (by (try simp only [List.map_toArray, List.map_cons, List.map_nil]); first | done | rfl | (simp only [List.length_drop, List.length_take]; rfl)) ?_; (with_reducible refine (impl_IsPower16.calls a0 t105 _ A2.out).mono ?_); rintro e w' ⟨rfl, ⟨nd, rfl⟩⟩; refine ⟨_, rfl, ?_⟩) | (go_at_call 20; (with_reducible refine (impl_IsPower16u.calls (IntKind.u16.wrap (a0)) t110 _ A11.out).mono ?_); rintro e w' ⟨rfl, ⟨nd, rfl⟩⟩) | (go_at_call 19; (with_reducible refine (spec_IsPower.calls k (IntKind.u64.wrap (IntKind.u16.wrap (a0))) t111 _ A12.out).mono ?_); rintro e w' ⟨rfl, ⟨nd, rfl⟩⟩) | (go_at_call 18; (with_reducible refine (impl_IsPower16.calls 8 t112 _ A14.out).mono ?_); rintro e w' ⟨rfl, ⟨nd, rfl⟩⟩))
        go_ret
        exact ⟨by first | rfl | (simp; done) | (simp [*]; done), by repeat (first | exact Drawn0.refl _ | apply Drawn0.step)⟩
      · rw [if_neg c13] at H
        have c13b0 : (t110 == t111) = false := by simpa using c13
        (try (have c13b1 : decide (t110 = t111) = false := by simpa using c13))
        (try (have c13b2 : (t110 == t111) = false := by simpa using c13))
        (try (have c13b3 : ¬ (t110 = t111) := by simpa using c13))
        clear c13
        obtain rfl := Option.some.inj H
        go_enter Try.func5, Try.ntmps5
        go_wp2_with (first | ((with_reducible refine gate_callee (f := 18) rfl ?_); refine goesL_ (some 4) rfl rfl Try.func18 (by kernel_rfl) rfl #[.int .i16 a0] rfl (by (try simp only [List.map_toArray, List.map_cons, List.map_nil]); first | done | rfl | (simp only [List.length_drop, List.length_take]; rfl)) ?_; (with_reducible refine (impl_IsPower16.calls a0 t105 _ A2.out).mono ?_); rintro e w' ⟨rfl, ⟨nd, rfl⟩⟩; refine ⟨_, rfl, ?_⟩) | (go_at_call 20; (with_reducible refine (impl_IsPower16u.calls (IntKind.u16.wrap (a0)) t110 _ A11.out).mono ?_); rintro e w' ⟨rfl, ⟨nd, rfl⟩⟩) | (go_at_call 19; (with_reducible refine (spec_IsPower.calls k (IntKind.u64.wrap (IntKind.u16.wrap (a0))) t111 _ A12.out).mono ?_); rintro e w' ⟨rfl, ⟨nd, rfl⟩⟩))
        go_ret
        exact ⟨by first | rfl | (simp; done) | (simp [*]; done), by repeat (first | exact Drawn0.refl _ | apply Drawn0.step)⟩
    · rw [if_neg c10] at H
      have c10b0 : (t105 == false) = false := by simpa using c10
      (try (have c10b1 : decide (t105 = false) = false := by simpa using c10))
      (try (have c10b2 : (t105 == false) = false := by simpa using c10))
      (try (have c10b3 : ¬ (t105 = false) := by simpa using c10))
      clear c10
      obtain rfl := Option.some.inj H
      go_enter Try.func5, Try.ntmps5
      go_wp2_with (first | ((with_reducible refine gate_callee (f := 18) rfl ?_); refine goesL_ (some 4) rfl rfl Try.func18 (by kernel_rfl) rfl #[.int .i16 a0] rfl (by (try simp only [List.map_toArray, List.map_cons, List.map_nil]); first | done | rfl | (simp only [List.length_drop, List.length_take]; rfl)) ?_; (with_reducible refine (impl_IsPower16.calls a0 t105 _ A2.out).mono ?_); rintro e w' ⟨rfl, ⟨nd, rfl⟩⟩; refine ⟨_, rfl, ?_⟩))
      go_ret
      exact ⟨by first | rfl | (simp; done) | (simp [*]; done), by repeat (first | exact Drawn0.refl _ | apply Drawn0.step)⟩

/-- THE ONE PURE STATEMENT of laws_FnPowers16: yours. -/
def laws_FnPowers16.Pure : Prop := ∀ (a0 : Int), (Lit.int .i16 a0).wf = true → ∃ k, laws_FnPowers16.f k a0 = some true
theorem laws_FnPowers16.walk (P : laws_FnPowers16.Pure) (a0 : Int) (w : World) (w0 : (Lit.int .i16 a0).wf = true) :
    Calls Try.prog 5 #[.int .i16 a0] w fun e w' => e = .returned (.bool true) ∧ Below w.heap.size w w' := by
  obtain ⟨k, h⟩ := P a0 w0
  refine (laws_FnPowers16.calls k a0 true w h).mono ?_
  rintro e w' ⟨rfl, hd⟩
  exact ⟨rfl, hd.below⟩

end Go.Proofs.Ytffpghicoalmhaa.PFnPowers16
