-- PRINTED BY print.sh 35421559b90ae4d0a3588c463048766b98c2df88dd9212a6774a882060cdf62d: not written by this session
import Derived.Test.YtffpghicoalmhaaPFnImmRotIsx0
namespace Go.Proofs.Ytffpghicoalmhaa.PFnImmRotIs
open Go.RowKit Go.Proofs.YtffpghicoalmhaaW.PrintWords Go.Proofs.YtffpghicoalmhaaW.PrintLast Go.Proofs.YtffpghicoalmhaaW.PrintMore
attribute [local go_sem] max2_int min2_int max_two min_two max_three min_three max_four min_four   -- for this text's walks alone
set_option linter.unusedVariables false
set_option linter.unusedSimpArgs false

/-! ### ssarewrite_isARMImmRot: function 67 -/
def ssarewrite_isARMImmRot.l0 : Nat → Int → Int → Option (Bool)
  | 0, _, _ => none
  | k + 1, x0, x3 => if x3 < 16 then (if (Go.bits .andNot .u32 x0 255) = 0 then (some true) else (ssarewrite_isARMImmRot.l0 k (Go.bits .or .u32 ((x0 * 4) % 4294967296) (x0 / 1073741824)) (wrap64 (x3 + 1)))) else (some false)
def ssarewrite_isARMImmRot.f (k : Nat) (a0 : Int) : Option (Bool) := ssarewrite_isARMImmRot.l0 k a0 0
theorem ssarewrite_isARMImmRot.mono_l : ∀ k, (∀ y0 y1, LeO (ssarewrite_isARMImmRot.l0 k y0 y1) (ssarewrite_isARMImmRot.l0 (k + 1) y0 y1))
  | 0 => fun _ _ r h => by simp [ssarewrite_isARMImmRot.l0] at h
  | k + 1 => by
    have ih0 := ssarewrite_isARMImmRot.mono_l k
    · intro y0 y1
      unfold ssarewrite_isARMImmRot.l0
      repeat' first
      | (with_reducible exact ih0 _ _)
      | (with_reducible exact LeO.refl _)
      | (with_reducible exact LeO.none _)
      | (with_reducible refine LeO.ite ?_ ?_)
      | (with_reducible refine LeO.bind ?_ (fun _ => ?_))
      | exact ih0 _ _
      | exact LeO.none _
      | refine LeO.ite ?_ ?_
      | refine LeO.bind ?_ (fun _ => ?_)
theorem ssarewrite_isARMImmRot.mono : ∀ a0 k, LeO (ssarewrite_isARMImmRot.f k a0) (ssarewrite_isARMImmRot.f (k + 1) a0) := by
  intro a0 k
  have ih0 := ssarewrite_isARMImmRot.mono_l k
  unfold ssarewrite_isARMImmRot.f
  repeat' first
      | (with_reducible exact ih0 _ _)
      | (with_reducible exact LeO.refl _)
      | (with_reducible exact LeO.none _)
      | (with_reducible refine LeO.ite ?_ ?_)
      | (with_reducible refine LeO.bind ?_ (fun _ => ?_))
      | exact ih0 _ _
      | exact LeO.none _
      | refine LeO.ite ?_ ?_
      | refine LeO.bind ?_ (fun _ => ?_)
set_option maxHeartbeats 8000000 in
set_option maxRecDepth 100000 in
theorem ssarewrite_isARMImmRot.calls (k : Nat) (a0 : Int) (r : Bool) (w : World) (h : ssarewrite_isARMImmRot.f k a0 = some r) :
    Calls Try.prog 67 #[.int .u32 a0] w fun e w' => e = .returned (.bool r) ∧ Drawn0 w w' := by
  have H : (ssarewrite_isARMImmRot.l0 k a0 0) = some r := h
  clear h
  have H' := Aside0.mk H
  clear H
  go_enter Try.func67, Try.ntmps67
  go_wp2
  go_loopg [0, 3] k (fun kq v0 v3 w' => ∃ (x0_1 : Int) (x3_1 : Int), v0 = .int .u32 x0_1 ∧ v3 = .int .i64 x3_1 ∧ Aside0 (ssarewrite_isARMImmRot.l0 kq x0_1 x3_1 = some r) ∧ Aside0 (kq ≤ k) ∧ Drawn0 w w')
  case atStart => exact ⟨(a0), (0), (by first | rfl | (simp; done) | (simp [*]; done)), (by first | rfl | (simp; done) | (simp [*]; done)), H', ⟨Nat.le_refl _⟩, by repeat (first | exact Drawn0.refl _ | apply Drawn0.step)⟩
  case round =>
    clear H'
    obtain ⟨x0_1, x3_1, rfl, rfl, HA, HK1, ⟨m1, rfl⟩⟩ := hrel
    cases gk with
    | zero => exact absurd HA.out (by simp [ssarewrite_isARMImmRot.l0])
    | succ k1 =>
      have H := HA.out
      clear HA
      simp only [ssarewrite_isARMImmRot.l0] at H
      by_cases c2 : x3_1 < 16
      · rw [if_pos c2] at H
        have c2b0 : decide (x3_1 < 16) = true := decide_eq_true c2
        clear c2
        by_cases c3 : (Go.bits .andNot .u32 x0_1 255) = 0
        · rw [if_pos c3] at H
          have c3b0 : ((Go.bits .andNot .u32 x0_1 255) == 0) = true := beq_iff_eq.mpr c3
          have c3b1 : ((Go.bits .andNot .u32 x0_1 255) != 0) = false := bne_eq_false_iff_eq.mpr c3
          clear c3
          obtain rfl := Option.some.inj H
          go_wp2
          go_ret
          exact ⟨by first | rfl | (simp; done) | (simp [*]; done), by repeat (first | exact Drawn0.refl _ | apply Drawn0.step)⟩
        · rw [if_neg c3] at H
          have c3b0 : ((Go.bits .andNot .u32 x0_1 255) == 0) = false := beq_eq_false_iff_ne.mpr c3
          have c3b1 : ((Go.bits .andNot .u32 x0_1 255) != 0) = true := bne_iff_ne.mpr c3
          have H' := Aside0.mk H
          clear H
          go_wp2
          go_roundg k1
          case measure => have := HK1.out; omega
          case rel => exact ⟨(Go.bits .or .u32 ((x0_1 * 4) % 4294967296) (x0_1 / 1073741824)), (wrap64 (x3_1 + 1)), (by first | rfl | (simp; done) | (simp [*]; done)), (by first | rfl | (simp; done) | (simp [*]; done)), H', ⟨by have := HK1.out; omega⟩, by repeat (first | exact Drawn0.refl _ | apply Drawn0.step)⟩
      · rw [if_neg c2] at H
        have c2b0 : decide (x3_1 < 16) = false := decide_eq_false c2
        clear c2
        obtain rfl := Option.some.inj H
        go_wp2
        go_ret
        exact ⟨by first | rfl | (simp; done) | (simp [*]; done), by repeat (first | exact Drawn0.refl _ | apply Drawn0.step)⟩

/-! ### ssarewrite_ZZIsARMImmRot: function 52 -/
def ssarewrite_ZZIsARMImmRot.f (k : Nat) (a0 : Int) : Option (Bool) := (ssarewrite_isARMImmRot.f k a0).bind fun t101 => (some t101)
theorem ssarewrite_ZZIsARMImmRot.mono : ∀ a0 k, LeO (ssarewrite_ZZIsARMImmRot.f k a0) (ssarewrite_ZZIsARMImmRot.f (k + 1) a0) := by
  intro a0 k
  unfold ssarewrite_ZZIsARMImmRot.f
  repeat' first
      | (with_reducible exact ssarewrite_isARMImmRot.mono _ _)
      | (with_reducible exact LeO.refl _)
      | (with_reducible exact LeO.none _)
      | (with_reducible refine LeO.ite ?_ ?_)
      | (with_reducible refine LeO.bind ?_ (fun _ => ?_))
      | exact ssarewrite_isARMImmRot.mono _ _
      | exact LeO.none _
      | refine LeO.ite ?_ ?_
      | refine LeO.bind ?_ (fun _ => ?_)
set_option maxHeartbeats 8000000 in
set_option maxRecDepth 100000 in
theorem ssarewrite_ZZIsARMImmRot.calls (k : Nat) (a0 : Int) (r : Bool) (w : World) (h : ssarewrite_ZZIsARMImmRot.f k a0 = some r) :
    Calls Try.prog 52 #[.int .u32 a0] w fun e w' => e = .returned (.bool r) ∧ Drawn0 w w' := by
  have H : ((ssarewrite_isARMImmRot.f k a0).bind fun t101 => (some t101)) = some r := h
  clear h
  replace H := Option.bind_eq_some_iff.mp H
  obtain ⟨t101, A20, H⟩ := H
  replace H : (some t101) = some r := H
  have A2 := Aside0.mk A20
  clear A20
  obtain rfl := Option.some.inj H
  go_enter Try.func52, Try.ntmps52
  go_wp2_with (first | ((with_reducible refine gate_callee (f := 67) rfl ?_); refine goesL_ (some 4) rfl rfl Try.func67 (by kernel_rfl) rfl #[.int .u32 a0] rfl (by (try simp only [List.map_toArray, List.map_cons, List.map_nil]); first | done | rfl | (simp only [List.length_drop, List.length_take]; rfl)) ?_; (with_reducible refine (ssarewrite_isARMImmRot.calls k a0 t101 _ A2.out).mono ?_); rintro e w' ⟨rfl, ⟨nd, rfl⟩⟩; refine ⟨_, rfl, ?_⟩))
  go_ret
  exact ⟨by first | rfl | (simp; done) | (simp [*]; done), by repeat (first | exact Drawn0.refl _ | apply Drawn0.step)⟩

/-! ### impl_IsImmRot: function 29 -/
def impl_IsImmRot.f (k : Nat) (a0 : Int) : Option (Bool) := (ssarewrite_ZZIsARMImmRot.f k a0).bind fun t102 => (some t102)
theorem impl_IsImmRot.mono : ∀ a0 k, LeO (impl_IsImmRot.f k a0) (impl_IsImmRot.f (k + 1) a0) := by
  intro a0 k
  unfold impl_IsImmRot.f
  repeat' first
      | (with_reducible exact ssarewrite_ZZIsARMImmRot.mono _ _)
      | (with_reducible exact LeO.refl _)
      | (with_reducible exact LeO.none _)
      | (with_reducible refine LeO.ite ?_ ?_)
      | (with_reducible refine LeO.bind ?_ (fun _ => ?_))
      | exact ssarewrite_ZZIsARMImmRot.mono _ _
      | exact LeO.none _
      | refine LeO.ite ?_ ?_
      | refine LeO.bind ?_ (fun _ => ?_)
set_option maxHeartbeats 8000000 in
set_option maxRecDepth 100000 in
theorem impl_IsImmRot.calls (k : Nat) (a0 : Int) (r : Bool) (w : World) (h : impl_IsImmRot.f k a0 = some r) :
    Calls Try.prog 29 #[.int .u32 a0] w fun e w' => e = .returned (.bool r) ∧ Drawn0 w w' := by
  have H : ((ssarewrite_ZZIsARMImmRot.f k a0).bind fun t102 => (some t102)) = some r := h
  clear h
  replace H := Option.bind_eq_some_iff.mp H
  obtain ⟨t102, A20, H⟩ := H
  replace H : (some t102) = some r := H
  have A2 := Aside0.mk A20
  clear A20
  obtain rfl := Option.some.inj H
  go_enter Try.func29, Try.ntmps29
  go_wp2_with (first | ((with_reducible refine gate_callee (f := 52) rfl ?_); refine goesL_ (some 4) rfl rfl Try.func52 (by kernel_rfl) rfl #[.int .u32 a0] rfl (by (try simp only [List.map_toArray, List.map_cons, List.map_nil]); first | done | rfl | (simp only [List.length_drop, List.length_take]; rfl)) ?_; (with_reducible refine (ssarewrite_ZZIsARMImmRot.calls k a0 t102 _ A2.out).mono ?_); rintro e w' ⟨rfl, ⟨nd, rfl⟩⟩; refine ⟨_, rfl, ?_⟩))
  go_ret
  exact ⟨by first | rfl | (simp; done) | (simp [*]; done), by repeat (first | exact Drawn0.refl _ | apply Drawn0.step)⟩

/-! ### spec_Low: function 48 -/
def spec_Low.f (a0 : Int) (a1 : Int) : Option (Int) := if a1 ≥ 64 then (some a0) else (if 0 ≤ a1 then (if (shl .u64 1 a1) = 0 then (none) else (some (Int.tmod a0 (shl .u64 1 a1)))) else (none))
set_option maxHeartbeats 8000000 in
set_option maxRecDepth 100000 in
theorem spec_Low.calls (a0 : Int) (a1 : Int) (r : Int) (w : World) (h : spec_Low.f a0 a1 = some r) :
    Calls Try.prog 48 #[.int .u64 a0, .int .u64 a1] w fun e w' => e = .returned (.int .u64 r) ∧ Drawn0 w w' := by
  have H : (if a1 ≥ 64 then (some a0) else (if 0 ≤ a1 then (if (shl .u64 1 a1) = 0 then (none) else (some (Int.tmod a0 (shl .u64 1 a1)))) else (none))) = some r := h
  clear h
  by_cases c3 : a1 ≥ 64
  · rw [if_pos c3] at H
    have c3b0 : decide (64 ≤ a1) = true := decide_eq_true c3
    clear c3
    obtain rfl := Option.some.inj H
    go_enter Try.func48, Try.ntmps48
    go_wp2
    go_ret
    exact ⟨by first | rfl | (simp; done) | (simp [*]; done), by repeat (first | exact Drawn0.refl _ | apply Drawn0.step)⟩
  · rw [if_neg c3] at H
    have c3b0 : decide (64 ≤ a1) = false := decide_eq_false c3
    clear c3
    by_cases c4 : 0 ≤ a1
    · rw [if_pos c4] at H
      have c4b0 := eq_true c4
      have c4b1 : decide (0 ≤ a1) = true := decide_eq_true c4
      clear c4
      obtain ⟨ji5, hji5⟩ : ∃ j_ : Int, (shl .u64 1 a1) = j_ := ⟨_, rfl⟩
      replace H : (if (ji5) = 0 then (none) else (some (Int.tmod a0 (ji5)))) = some r := by first | (rw [hji5] at H; exact H) | (simp only [hji5] at H ⊢; exact H)
      have hji5_ : (IntKind.u64.wrap (1 * 2 ^ min a1.toNat 64)) = ji5 := hji5
      have hji5z : a1 ≤ 64 → (IntKind.u64.wrap (1 * 2 ^ a1.toNat)) = ji5 := shl_small hji5
      have hji5u : (IntKind.u64.wrap (2 ^ min a1.toNat 64)) = ji5 := by have h_ := hji5_; rw [Int.one_mul] at h_; exact h_
      have hji5v : a1 ≤ 64 → (IntKind.u64.wrap (2 ^ a1.toNat)) = ji5 := fun hle_ => by have h_ := hji5z hle_; rw [Int.one_mul] at h_; exact h_
      by_cases c6 : (ji5) = 0
      · rw [if_pos c6] at H
        exact absurd H (by simp)
      · rw [if_neg c6] at H
        have c6b0 : ((ji5) == 0) = false := beq_eq_false_iff_ne.mpr c6
        have c6b1 : ((ji5) != 0) = true := bne_iff_ne.mpr c6
        obtain rfl := Option.some.inj H
        go_enter Try.func48, Try.ntmps48
        go_wp2
        go_ret
        exact ⟨by first | rfl | (simp; done) | (simp only [← hji5] <;> (first | rfl | simp)) | (simp [*]; done), by repeat (first | exact Drawn0.refl _ | apply Drawn0.step)⟩
    · rw [if_neg c4] at H
      exact absurd H (by simp)

/-! ### spec_Turn: function 25 -/
def spec_Turn.f (a0 : Int) (a1 : Int) (a2 : Int) : Option (Int) := if a1 = 0 then (none) else ((spec_Low.f a0 a1).bind fun t103 => (if 0 ≤ (Int.tmod a2 a1) then (if 0 ≤ (IntKind.u64.wrap (a1 - (Int.tmod a2 a1))) then ((spec_Low.f (Go.bits .or .u64 (shl .u64 t103 (Int.tmod a2 a1)) (shr .u64 t103 (IntKind.u64.wrap (a1 - (Int.tmod a2 a1))))) a1).bind fun t104 => (some t104)) else (none)) else (none)))
set_option maxHeartbeats 8000000 in
set_option maxRecDepth 100000 in
theorem spec_Turn.calls (a0 : Int) (a1 : Int) (a2 : Int) (r : Int) (w : World) (h : spec_Turn.f a0 a1 a2 = some r) :
    Calls Try.prog 25 #[.int .u64 a0, .int .u64 a1, .int .u64 a2] w fun e w' => e = .returned (.int .u64 r) ∧ Drawn0 w w' := by
  have H : (if a1 = 0 then (none) else ((spec_Low.f a0 a1).bind fun t103 => (if 0 ≤ (Int.tmod a2 a1) then (if 0 ≤ (IntKind.u64.wrap (a1 - (Int.tmod a2 a1))) then ((spec_Low.f (Go.bits .or .u64 (shl .u64 t103 (Int.tmod a2 a1)) (shr .u64 t103 (IntKind.u64.wrap (a1 - (Int.tmod a2 a1))))) a1).bind fun t104 => (some t104)) else (none)) else (none)))) = some r := h
  clear h
  by_cases c4 : a1 = 0
  · rw [if_pos c4] at H
    exact absurd H (by simp)
  · rw [if_neg c4] at H
    have c4b0 : (a1 == 0) = false := beq_eq_false_iff_ne.mpr c4
    have c4b1 : (a1 != 0) = true := bne_iff_ne.mpr c4
    replace H := Option.bind_eq_some_iff.mp H
    obtain ⟨t103, A50, H⟩ := H
    replace H : (if 0 ≤ (Int.tmod a2 a1) then (if 0 ≤ (IntKind.u64.wrap (a1 - (Int.tmod a2 a1))) then ((spec_Low.f (Go.bits .or .u64 (shl .u64 t103 (Int.tmod a2 a1)) (shr .u64 t103 (IntKind.u64.wrap (a1 - (Int.tmod a2 a1))))) a1).bind fun t104 => (some t104)) else (none)) else (none)) = some r := H
    have A5 := Aside0.mk A50
    clear A50
    obtain ⟨ji6, hji6⟩ : ∃ j_ : Int, (Int.tmod a2 a1) = j_ := ⟨_, rfl⟩
    replace H : (if 0 ≤ (ji6) then (if 0 ≤ (IntKind.u64.wrap (a1 - (ji6))) then ((spec_Low.f (Go.bits .or .u64 (shl .u64 t103 (ji6)) (shr .u64 t103 (IntKind.u64.wrap (a1 - (ji6))))) a1).bind fun t104 => (some t104)) else (none)) else (none)) = some r := by first | (rw [hji6] at H; exact H) | (simp only [hji6] at H ⊢; exact H)
    (try rw [hji6] at A5)
    by_cases c7 : 0 ≤ (ji6)
    · rw [if_pos c7] at H
      have c7b0 := eq_true c7
      have c7b1 : decide (0 ≤ (ji6)) = true := decide_eq_true c7
      clear c7
      obtain ⟨ji8, hji8⟩ : ∃ j_ : Int, (shl .u64 t103 (ji6)) = j_ := ⟨_, rfl⟩
      replace H : (if 0 ≤ (IntKind.u64.wrap (a1 - (ji6))) then ((spec_Low.f (Go.bits .or .u64 (ji8) (shr .u64 t103 (IntKind.u64.wrap (a1 - (ji6))))) a1).bind fun t104 => (some t104)) else (none)) = some r := by first | (rw [hji8] at H; exact H) | (simp only [hji8] at H ⊢; exact H)
      (try rw [hji8] at A5)
      have hji8_ : (IntKind.u64.wrap (t103 * 2 ^ min (ji6).toNat 64)) = ji8 := hji8
      have hji8z : (ji6) ≤ 64 → (IntKind.u64.wrap (t103 * 2 ^ (ji6).toNat)) = ji8 := shl_small hji8
      obtain ⟨ji9, hji9⟩ : ∃ j_ : Int, (IntKind.u64.wrap (a1 - (ji6))) = j_ := ⟨_, rfl⟩
      replace H : (if 0 ≤ (ji9) then ((spec_Low.f (Go.bits .or .u64 (ji8) (shr .u64 t103 (ji9))) a1).bind fun t104 => (some t104)) else (none)) = some r := by first | (rw [hji9] at H; exact H) | (simp only [hji9] at H ⊢; exact H)
      (try rw [hji9] at A5)
      by_cases c10 : 0 ≤ (ji9)
      · rw [if_pos c10] at H
        have c10b0 := eq_true c10
        have c10b1 : decide (0 ≤ (ji9)) = true := decide_eq_true c10
        clear c10
        obtain ⟨ji11, hji11⟩ : ∃ j_ : Int, (shr .u64 t103 (ji9)) = j_ := ⟨_, rfl⟩
        replace H : ((spec_Low.f (Go.bits .or .u64 (ji8) (ji11)) a1).bind fun t104 => (some t104)) = some r := by first | (rw [hji11] at H; exact H) | (simp only [hji11] at H ⊢; exact H)
        (try rw [hji11] at A5)
        have hji11_ : (t103 / 2 ^ min (ji9).toNat 64) = ji11 := hji11
        have hji11z : (ji9) ≤ 64 → (t103 / 2 ^ (ji9).toNat) = ji11 := shr_small hji11
        replace H := Option.bind_eq_some_iff.mp H
        obtain ⟨t104, A120, H⟩ := H
        replace H : (some t104) = some r := H
        have A12 := Aside0.mk A120
        clear A120
        obtain rfl := Option.some.inj H
        go_enter Try.func25, Try.ntmps25
        go_wp2_with (first | ((with_reducible refine gate_callee (f := 48) rfl ?_); refine goesL_ (some 12) rfl rfl Try.func48 (by kernel_rfl) rfl #[.int .u64 a0, .int .u64 a1] rfl (by (try simp only [List.map_toArray, List.map_cons, List.map_nil]); first | done | rfl | (simp only [List.length_drop, List.length_take]; rfl)) ?_; (with_reducible refine (spec_Low.calls a0 a1 t103 _ A5.out).mono ?_); rintro e w' ⟨rfl, ⟨nd, rfl⟩⟩; refine ⟨_, rfl, ?_⟩) | ((with_reducible refine gate_callee (f := 48) rfl ?_); refine goesL_ (some 23) rfl rfl Try.func48 (by kernel_rfl) rfl #[.int .u64 (Go.bits .or .u64 (ji8) (ji11)), .int .u64 a1] rfl (by (try simp only [List.map_toArray, List.map_cons, List.map_nil]); first | done | (simp only [hji11, hji8]; rfl) | rfl | (simp only [List.length_drop, List.length_take]; rfl)) ?_; (with_reducible refine (spec_Low.calls (Go.bits .or .u64 (ji8) (ji11)) a1 t104 _ A12.out).mono ?_); rintro e w' ⟨rfl, ⟨nd, rfl⟩⟩; refine ⟨_, rfl, ?_⟩))
        go_ret
        exact ⟨by first | rfl | (simp; done) | (simp only [← hji6, ← hji8, ← hji9, ← hji11] <;> (first | rfl | simp)) | (simp [*]; done), by repeat (first | exact Drawn0.refl _ | apply Drawn0.step)⟩
      · rw [if_neg c10] at H
        exact absurd H (by simp)
    · rw [if_neg c7] at H
      exact absurd H (by simp)

/-! ### spec_IsImmediate: function 30 -/
def spec_IsImmediate.l0 : Nat → Int → Int → Option (Bool)
  | 0, _, _ => none
  | k + 1, x0, x3 => if x3 < 32 then ((spec_Turn.f (IntKind.u64.wrap (x0)) 32 x3).bind fun t105 => (if t105 < 256 then (some true) else (spec_IsImmediate.l0 k x0 (IntKind.u64.wrap (x3 + 2))))) else (some false)
def spec_IsImmediate.f (k : Nat) (a0 : Int) : Option (Bool) := spec_IsImmediate.l0 k a0 0
theorem spec_IsImmediate.mono_l : ∀ k, (∀ y0 y1, LeO (spec_IsImmediate.l0 k y0 y1) (spec_IsImmediate.l0 (k + 1) y0 y1))
  | 0 => fun _ _ r h => by simp [spec_IsImmediate.l0] at h
  | k + 1 => by
    have ih0 := spec_IsImmediate.mono_l k
    · intro y0 y1
      unfold spec_IsImmediate.l0
      repeat' first
      | (with_reducible exact ih0 _ _)
      | (with_reducible exact LeO.refl _)
      | (with_reducible exact LeO.none _)
      | (with_reducible refine LeO.ite ?_ ?_)
      | (with_reducible refine LeO.bind ?_ (fun _ => ?_))
      | exact ih0 _ _
      | exact LeO.none _
      | refine LeO.ite ?_ ?_
      | refine LeO.bind ?_ (fun _ => ?_)
theorem spec_IsImmediate.mono : ∀ a0 k, LeO (spec_IsImmediate.f k a0) (spec_IsImmediate.f (k + 1) a0) := by
  intro a0 k
  have ih0 := spec_IsImmediate.mono_l k
  unfold spec_IsImmediate.f
  repeat' first
      | (with_reducible exact ih0 _ _)
      | (with_reducible exact LeO.refl _)
      | (with_reducible exact LeO.none _)
      | (with_reducible refine LeO.ite ?_ ?_)
      | (with_reducible refine LeO.bind ?_ (fun _ => ?_))
      | exact ih0 _ _
      | exact LeO.none _
      | refine LeO.ite ?_ ?_
      | refine LeO.bind ?_ (fun _ => ?_)
set_option maxHeartbeats 8000000 in
set_option maxRecDepth 100000 in
theorem spec_IsImmediate.calls (k : Nat) (a0 : Int) (r : Bool) (w : World) (h : spec_IsImmediate.f k a0 = some r) :
    Calls Try.prog 30 #[.int .u32 a0] w fun e w' => e = .returned (.bool r) ∧ Drawn0 w w' := by
  have H : (spec_IsImmediate.l0 k a0 0) = some r := h
  clear h
  have H' := Aside0.mk H
  clear H
  go_enter Try.func30, Try.ntmps30
  go_wp2
  go_loopg [3] k (fun kq v3 w' => ∃ (x3_1 : Int), v3 = .int .u64 x3_1 ∧ Aside0 (spec_IsImmediate.l0 kq a0 x3_1 = some r) ∧ Aside0 (kq ≤ k) ∧ Drawn0 w w')
  case atStart => exact ⟨(0), (by first | rfl | (simp; done) | (simp [*]; done)), H', ⟨Nat.le_refl _⟩, by repeat (first | exact Drawn0.refl _ | apply Drawn0.step)⟩
  case round =>
    clear H'
    obtain ⟨x3_1, rfl, HA, HK1, ⟨m1, rfl⟩⟩ := hrel
    cases gk with
    | zero => exact absurd HA.out (by simp [spec_IsImmediate.l0])
    | succ k1 =>
      have H := HA.out
      clear HA
      simp only [spec_IsImmediate.l0] at H
      by_cases c2 : x3_1 < 32
      · rw [if_pos c2] at H
        have c2b0 : decide (x3_1 < 32) = true := decide_eq_true c2
        clear c2
        replace H := Option.bind_eq_some_iff.mp H
        obtain ⟨t105, A30, H⟩ := H
        replace H : (if t105 < 256 then (some true) else (spec_IsImmediate.l0 k1 a0 (IntKind.u64.wrap (x3_1 + 2)))) = some r := H
        have A3 := Aside0.mk A30
        clear A30
        by_cases c4 : t105 < 256
        · rw [if_pos c4] at H
          have c4b0 : decide (t105 < 256) = true := decide_eq_true c4
          clear c4
          obtain rfl := Option.some.inj H
          go_wp2_with (first | ((with_reducible refine gate_callee (f := 25) rfl ?_); refine goesL_ (some 11) rfl rfl Try.func25 (by kernel_rfl) rfl #[.int .u64 (IntKind.u64.wrap (a0)), .int .u64 32, .int .u64 x3_1] rfl (by (try simp only [List.map_toArray, List.map_cons, List.map_nil]); first | done | rfl | (simp only [List.length_drop, List.length_take]; rfl)) ?_; (with_reducible refine (spec_Turn.calls (IntKind.u64.wrap (a0)) 32 x3_1 t105 _ A3.out).mono ?_); rintro e w' ⟨rfl, ⟨nd, rfl⟩⟩; refine ⟨_, rfl, ?_⟩))
          go_ret
          exact ⟨by first | rfl | (simp; done) | (simp [*]; done), by repeat (first | exact Drawn0.refl _ | apply Drawn0.step)⟩
        · rw [if_neg c4] at H
          have c4b0 : decide (t105 < 256) = false := decide_eq_false c4
          clear c4
          have H' := Aside0.mk H
          clear H
          go_wp2_with (first | ((with_reducible refine gate_callee (f := 25) rfl ?_); refine goesL_ (some 11) rfl rfl Try.func25 (by kernel_rfl) rfl #[.int .u64 (IntKind.u64.wrap (a0)), .int .u64 32, .int .u64 x3_1] rfl (by (try simp only [List.map_toArray, List.map_cons, List.map_nil]); first | done | rfl | (simp only [List.length_drop, List.length_take]; rfl)) ?_; (with_reducible refine (spec_Turn.calls (IntKind.u64.wrap (a0)) 32 x3_1 t105 _ A3.out).mono ?_); rintro e w' ⟨rfl, ⟨nd, rfl⟩⟩; refine ⟨_, rfl, ?_⟩))
          go_roundg k1
          case measure => have := HK1.out; omega
          case rel => exact ⟨(IntKind.u64.wrap (x3_1 + 2)), (by first | rfl | (simp; done) | (simp [*]; done)), H', ⟨by have := HK1.out; omega⟩, by repeat (first | exact Drawn0.refl _ | apply Drawn0.step)⟩
      · rw [if_neg c2] at H
        have c2b0 : decide (x3_1 < 32) = false := decide_eq_false c2
        clear c2
        obtain rfl := Option.some.inj H
        go_wp2
        go_ret
        exact ⟨by first | rfl | (simp; done) | (simp [*]; done), by repeat (first | exact Drawn0.refl _ | apply Drawn0.step)⟩

/-! ### laws_FnImmRotIs: function 10 -/
def laws_FnImmRotIs.f (k : Nat) (a0 : Int) : Option (Bool) := (impl_IsImmRot.f k a0).bind fun t106 => ((spec_IsImmediate.f k a0).bind fun t107 => (if (t106 == t107) = true then ((impl_IsImmRot.f k 5).bind fun t108 => (some t108)) else (some false)))
theorem laws_FnImmRotIs.mono : ∀ a0 k, LeO (laws_FnImmRotIs.f k a0) (laws_FnImmRotIs.f (k + 1) a0) := by
  intro a0 k
  unfold laws_FnImmRotIs.f
  repeat' first
      | (with_reducible exact impl_IsImmRot.mono _ _)
      | (with_reducible exact spec_IsImmediate.mono _ _)
      | (with_reducible exact LeO.refl _)
      | (with_reducible exact LeO.none _)
      | (with_reducible refine LeO.ite ?_ ?_)
      | (with_reducible refine LeO.bind ?_ (fun _ => ?_))
      | exact impl_IsImmRot.mono _ _
      | exact spec_IsImmediate.mono _ _
      | exact LeO.none _
      | refine LeO.ite ?_ ?_
      | refine LeO.bind ?_ (fun _ => ?_)
set_option maxHeartbeats 8000000 in
set_option maxRecDepth 100000 in
theorem laws_FnImmRotIs.calls (k : Nat) (a0 : Int) (r : Bool) (w : World) (h : laws_FnImmRotIs.f k a0 = some r) :
    Calls Try.prog 10 #[.int .u32 a0] w fun e w' => e = .returned (.bool r) ∧ Drawn0 w w' := by
  have H : ((impl_IsImmRot.f k a0).bind fun t106 => ((spec_IsImmediate.f k a0).bind fun t107 => (if (t106 == t107) = true then ((impl_IsImmRot.f k 5).bind fun t108 => (some t108)) else (some false)))) = some r := h
  clear h
  replace H := Option.bind_eq_some_iff.mp H
  obtain ⟨t106, A20, H⟩ := H
  replace H : ((spec_IsImmediate.f k a0).bind fun t107 => (if (t106 == t107) = true then ((impl_IsImmRot.f k 5).bind fun t108 => (some t108)) else (some false))) = some r := H
  have A2 := Aside0.mk A20
  clear A20
  replace H := Option.bind_eq_some_iff.mp H
  obtain ⟨t107, A30, H⟩ := H
  replace H : (if (t106 == t107) = true then ((impl_IsImmRot.f k 5).bind fun t108 => (some t108)) else (some false)) = some r := H
  have A3 := Aside0.mk A30
  clear A30
  by_cases c4 : (t106 == t107) = true
  · rw [if_pos c4] at H
    have c4b0 : (t106 == t107) = true := c4
    (try (have c4b1 : decide (t106 = t107) = true := by simpa using c4))
    (try (have c4b2 : (t106 == t107) = true := by simpa using c4))
    clear c4
    replace H := Option.bind_eq_some_iff.mp H
    obtain ⟨t108, A50, H⟩ := H
    replace H : (some t108) = some r := H
    have A5 := Aside0.mk A50
    clear A50
    obtain rfl := Option.some.inj H
    go_enter Try.func10, Try.ntmps10
    go_wp2_with (first | ((with_reducible refine gate_callee (f := 29) rfl ?_); refine goesL_ (some 4) rfl rfl Try.func29 (by kernel_rfl) rfl #[.int .u32 a0] rfl (by (try simp only [List.map_toArray, List.map_cons, List.map_nil]); first | done | rfl | (simp only [List.length_drop, List.length_take]; rfl)) ?_; (with_reducible refine (impl_IsImmRot.calls k a0 t106 _ A2.out).mono ?_); rintro e w' ⟨rfl, ⟨nd, rfl⟩⟩; refine ⟨_, rfl, ?_⟩) | ((with_reducible refine gate_callee (f := 30) rfl ?_); refine goesL_ (some 6) rfl rfl Try.func30 (by kernel_rfl) rfl #[.int .u32 a0] rfl (by (try simp only [List.map_toArray, List.map_cons, List.map_nil]); first | done | rfl | (simp only [List.length_drop, List.length_take]; rfl)) ?_; (with_reducible refine (spec_IsImmediate.calls k a0 t107 _ A3.out).mono ?_); rintro e w' ⟨rfl, ⟨nd, rfl⟩⟩; refine ⟨_, rfl, ?_⟩) | (go_at_call 29; (with_reducible refine (impl_IsImmRot.calls k 5 t108 _ A5.out).mono ?_); rintro e w' ⟨rfl, ⟨nd, rfl⟩⟩))
    go_ret
    exact ⟨by first | rfl | (simp; done) | (simp [*]; done), by repeat (first | exact Drawn0.refl _ | apply Drawn0.step)⟩
  · rw [if_neg c4] at H
    have c4b0 : (t106 == t107) = false := by simpa using c4
    (try (have c4b1 : decide (t106 = t107) = false := by simpa using c4))
    (try (have c4b2 : (t106 == t107) = false := by simpa using c4))
    (try (have c4b3 : ¬ (t106 = t107) := by simpa using c4))
    clear c4
    obtain rfl := Option.some.inj H
    go_enter Try.func10, Try.ntmps10
    go_wp2_with (first | ((with_reducible refine gate_callee (f := 29) rfl ?_); refine goesL_ (some 4) rfl rfl Try.func29 (by kernel_rfl) rfl #[.int .u32 a0] rfl (by (try simp only [List.map_toArray, List.map_cons, List.map_nil]); first | done | rfl | (simp only [List.length_drop, List.length_take]; rfl)) ?_; (with_reducible refine (impl_IsImmRot.calls k a0 t106 _ A2.out).mono ?_); rintro e w' ⟨rfl, ⟨nd, rfl⟩⟩; refine ⟨_, rfl, ?_⟩) | ((with_reducible refine gate_callee (f := 30) rfl ?_); refine goesL_ (some 6) rfl rfl Try.func30 (by kernel_rfl) rfl #[.int .u32 a0] rfl (by (try simp only [List.map_toArray, List.map_cons, List.map_nil]); first | done | rfl | (simp only [List.length_drop, List.length_take]; rfl)) ?_; (with_reducible refine (spec_IsImmediate.calls k a0 t107 _ A3.out).mono ?_); rintro e w' ⟨rfl, ⟨nd, rfl⟩⟩; refine ⟨_, rfl, ?_⟩))
    go_ret
    exact ⟨by first | rfl | (simp; done) | (simp [*]; done), by repeat (first | exact Drawn0.refl _ | apply Drawn0.step)⟩

/-- THE ONE PURE STATEMENT of laws_FnImmRotIs: yours. -/
def laws_FnImmRotIs.Pure : Prop := ∀ (a0 : Int), (Lit.int .u32 a0).wf = true → ∃ k, laws_FnImmRotIs.f k a0 = some true
theorem laws_FnImmRotIs.walk (P : laws_FnImmRotIs.Pure) (a0 : Int) (w : World) (w0 : (Lit.int .u32 a0).wf = true) :
    Calls Try.prog 10 #[.int .u32 a0] w fun e w' => e = .returned (.bool true) ∧ Below w.heap.size w w' := by
  obtain ⟨k, h⟩ := P a0 w0
  refine (laws_FnImmRotIs.calls k a0 true w h).mono ?_
  rintro e w' ⟨rfl, hd⟩
  exact ⟨rfl, hd.below⟩

end Go.Proofs.Ytffpghicoalmhaa.PFnImmRotIs
