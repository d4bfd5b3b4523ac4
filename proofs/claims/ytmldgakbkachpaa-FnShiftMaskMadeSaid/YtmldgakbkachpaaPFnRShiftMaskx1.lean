-- PRINTED BY print.sh 35421559b90ae4d0a3588c463048766b98c2df88dd9212a6774a882060cdf62d: not written by this session
import Derived.Test.YtmldgakbkachpaaPFnRShiftMaskx0
namespace Go.Proofs.Ytmldgakbkachpaa.PFnRShiftMask
open Go.RowKit Go.Proofs.YtmldgakbkachpaaW.PrintWords Go.Proofs.YtmldgakbkachpaaW.PrintLast Go.Proofs.YtmldgakbkachpaaW.PrintMore
attribute [local go_sem] max2_int min2_int max_two min_two max_three min_three max_four min_four   -- for this text's walks alone
set_option linter.unusedVariables false
set_option linter.unusedSimpArgs false

/-! ### laws_rwAt: function 8 -/
def laws_rwAt.f (a0 : Int) (a1 : Int) : Option (Int) := if a1 = 0 then (none) else (some (Int.tmod (wrap64 ((Int.tmod a0 a1) + a1)) a1))
set_option maxHeartbeats 8000000 in
set_option maxRecDepth 100000 in
theorem laws_rwAt.calls (a0 : Int) (a1 : Int) (r : Int) (w : World) (h : laws_rwAt.f a0 a1 = some r) :
    Calls Try.prog 8 #[.int .i64 a0, .int .i64 a1] w fun e w' => e = .returned (.int .i64 r) ∧ Drawn0 w w' := by
  have H : (if a1 = 0 then (none) else (some (Int.tmod (wrap64 ((Int.tmod a0 a1) + a1)) a1))) = some r := h
  clear h
  by_cases c3 : a1 = 0
  · rw [if_pos c3] at H
    exact absurd H (by simp)
  · rw [if_neg c3] at H
    have c3b0 : (a1 == 0) = false := beq_eq_false_iff_ne.mpr c3
    have c3b1 : (a1 != 0) = true := bne_iff_ne.mpr c3
    obtain rfl := Option.some.inj H
    go_enter Try.func8, Try.ntmps8
    go_wp2
    go_ret
    exact ⟨by first | rfl | (simp; done) | (simp [*]; done), by repeat (first | exact Drawn0.refl _ | apply Drawn0.step)⟩

/-! ### ssarewrite_mergePPC64RShiftMask: function 31 -/
def ssarewrite_mergePPC64RShiftMask.f (a0 : Int) (a1 : Int) (a2 : Int) : Option (Int) := if 0 ≤ (IntKind.u64.wrap (a2)) then (if 0 ≤ (IntKind.u64.wrap (a1)) then (some (Go.bits .and .i64 a0 (wrap64 (shr .u64 (IntKind.u64.wrap ((shl .u64 1 (IntKind.u64.wrap (a2))) - 1)) (IntKind.u64.wrap (a1)))))) else (none)) else (none)
set_option maxHeartbeats 8000000 in
set_option maxRecDepth 100000 in
theorem ssarewrite_mergePPC64RShiftMask.calls (a0 : Int) (a1 : Int) (a2 : Int) (r : Int) (w : World) (h : ssarewrite_mergePPC64RShiftMask.f a0 a1 a2 = some r) :
    Calls Try.prog 31 #[.int .i64 a0, .int .i64 a1, .int .i64 a2] w fun e w' => e = .returned (.int .i64 r) ∧ Drawn0 w w' := by
  have H : (if 0 ≤ (IntKind.u64.wrap (a2)) then (if 0 ≤ (IntKind.u64.wrap (a1)) then (some (Go.bits .and .i64 a0 (wrap64 (shr .u64 (IntKind.u64.wrap ((shl .u64 1 (IntKind.u64.wrap (a2))) - 1)) (IntKind.u64.wrap (a1)))))) else (none)) else (none)) = some r := h
  clear h
  obtain ⟨ji4, hji4⟩ : ∃ j_ : Int, (IntKind.u64.wrap (a2)) = j_ := ⟨_, rfl⟩
  replace H : (if 0 ≤ (ji4) then (if 0 ≤ (IntKind.u64.wrap (a1)) then (some (Go.bits .and .i64 a0 (wrap64 (shr .u64 (IntKind.u64.wrap ((shl .u64 1 (ji4)) - 1)) (IntKind.u64.wrap (a1)))))) else (none)) else (none)) = some r := by first | (rw [hji4] at H; exact H) | (simp only [hji4] at H ⊢; exact H)
  by_cases c5 : 0 ≤ (ji4)
  · rw [if_pos c5] at H
    have c5b0 := eq_true c5
    have c5b1 : decide (0 ≤ (ji4)) = true := decide_eq_true c5
    clear c5
    obtain ⟨ji6, hji6⟩ : ∃ j_ : Int, (shl .u64 1 (ji4)) = j_ := ⟨_, rfl⟩
    replace H : (if 0 ≤ (IntKind.u64.wrap (a1)) then (some (Go.bits .and .i64 a0 (wrap64 (shr .u64 (IntKind.u64.wrap ((ji6) - 1)) (IntKind.u64.wrap (a1)))))) else (none)) = some r := by first | (rw [hji6] at H; exact H) | (simp only [hji6] at H ⊢; exact H)
    have hji6_ : (IntKind.u64.wrap (1 * 2 ^ min (ji4).toNat 64)) = ji6 := hji6
    have hji6z : (ji4) ≤ 64 → (IntKind.u64.wrap (1 * 2 ^ (ji4).toNat)) = ji6 := shl_small hji6
    have hji6u : (IntKind.u64.wrap (2 ^ min (ji4).toNat 64)) = ji6 := by have h_ := hji6_; rw [Int.one_mul] at h_; exact h_
    have hji6v : (ji4) ≤ 64 → (IntKind.u64.wrap (2 ^ (ji4).toNat)) = ji6 := fun hle_ => by have h_ := hji6z hle_; rw [Int.one_mul] at h_; exact h_
    obtain ⟨ji7, hji7⟩ : ∃ j_ : Int, (IntKind.u64.wrap (a1)) = j_ := ⟨_, rfl⟩
    replace H : (if 0 ≤ (ji7) then (some (Go.bits .and .i64 a0 (wrap64 (shr .u64 (IntKind.u64.wrap ((ji6) - 1)) (ji7))))) else (none)) = some r := by first | (rw [hji7] at H; exact H) | (simp only [hji7] at H ⊢; exact H)
    by_cases c8 : 0 ≤ (ji7)
    · rw [if_pos c8] at H
      have c8b0 := eq_true c8
      have c8b1 : decide (0 ≤ (ji7)) = true := decide_eq_true c8
      clear c8
      obtain ⟨ji9, hji9⟩ : ∃ j_ : Int, (shr .u64 (IntKind.u64.wrap ((ji6) - 1)) (ji7)) = j_ := ⟨_, rfl⟩
      replace H : (some (Go.bits .and .i64 a0 (wrap64 (ji9)))) = some r := by first | (rw [hji9] at H; exact H) | (simp only [hji9] at H ⊢; exact H)
      have hji9_ : ((IntKind.u64.wrap ((ji6) - 1)) / 2 ^ min (ji7).toNat 64) = ji9 := hji9
      have hji9z : (ji7) ≤ 64 → ((IntKind.u64.wrap ((ji6) - 1)) / 2 ^ (ji7).toNat) = ji9 := shr_small hji9
      obtain rfl := Option.some.inj H
      go_enter Try.func31, Try.ntmps31
      go_wp2
      go_ret
      exact ⟨by first | rfl | (simp; done) | (simp only [← hji4, ← hji6, ← hji7, ← hji9] <;> (first | rfl | simp)) | (simp [*]; done), by repeat (first | exact Drawn0.refl _ | apply Drawn0.step)⟩
    · rw [if_neg c8] at H
      exact absurd H (by simp)
  · rw [if_neg c5] at H
    exact absurd H (by simp)

/-! ### ssarewrite_ZZMergePPC64RShiftMask: function 21 -/
def ssarewrite_ZZMergePPC64RShiftMask.f (a0 : Int) (a1 : Int) (a2 : Int) : Option (Int) := (ssarewrite_mergePPC64RShiftMask.f a0 a1 a2).bind fun t101 => (some t101)
set_option maxHeartbeats 8000000 in
set_option maxRecDepth 100000 in
theorem ssarewrite_ZZMergePPC64RShiftMask.calls (a0 : Int) (a1 : Int) (a2 : Int) (r : Int) (w : World) (h : ssarewrite_ZZMergePPC64RShiftMask.f a0 a1 a2 = some r) :
    Calls Try.prog 21 #[.int .i64 a0, .int .i64 a1, .int .i64 a2] w fun e w' => e = .returned (.int .i64 r) ∧ Drawn0 w w' := by
  have H : ((ssarewrite_mergePPC64RShiftMask.f a0 a1 a2).bind fun t101 => (some t101)) = some r := h
  clear h
  replace H := Option.bind_eq_some_iff.mp H
  obtain ⟨t101, A40, H⟩ := H
  replace H : (some t101) = some r := H
  have A4 := Aside0.mk A40
  clear A40
  obtain rfl := Option.some.inj H
  go_enter Try.func21, Try.ntmps21
  go_wp2_with (first | ((with_reducible refine gate_callee (f := 31) rfl ?_); refine goesL_ (some 10) rfl rfl Try.func31 (by kernel_rfl) rfl #[.int .i64 a0, .int .i64 a1, .int .i64 a2] rfl (by (try simp only [List.map_toArray, List.map_cons, List.map_nil]); first | done | rfl | (simp only [List.length_drop, List.length_take]; rfl)) ?_; (with_reducible refine (ssarewrite_mergePPC64RShiftMask.calls a0 a1 a2 t101 _ A4.out).mono ?_); rintro e w' ⟨rfl, ⟨nd, rfl⟩⟩; refine ⟨_, rfl, ?_⟩))
  go_ret
  exact ⟨by first | rfl | (simp; done) | (simp [*]; done), by repeat (first | exact Drawn0.refl _ | apply Drawn0.step)⟩

/-! ### impl_RShiftMask: function 9 -/
def impl_RShiftMask.f (a0 : Int) (a1 : Int) (a2 : Int) : Option (Int) := (ssarewrite_ZZMergePPC64RShiftMask.f a0 a1 a2).bind fun t102 => (some t102)
set_option maxHeartbeats 8000000 in
set_option maxRecDepth 100000 in
theorem impl_RShiftMask.calls (a0 : Int) (a1 : Int) (a2 : Int) (r : Int) (w : World) (h : impl_RShiftMask.f a0 a1 a2 = some r) :
    Calls Try.prog 9 #[.int .i64 a0, .int .i64 a1, .int .i64 a2] w fun e w' => e = .returned (.int .i64 r) ∧ Drawn0 w w' := by
  have H : ((ssarewrite_ZZMergePPC64RShiftMask.f a0 a1 a2).bind fun t102 => (some t102)) = some r := h
  clear h
  replace H := Option.bind_eq_some_iff.mp H
  obtain ⟨t102, A40, H⟩ := H
  replace H : (some t102) = some r := H
  have A4 := Aside0.mk A40
  clear A40
  obtain rfl := Option.some.inj H
  go_enter Try.func9, Try.ntmps9
  go_wp2_with (first | ((with_reducible refine gate_callee (f := 21) rfl ?_); refine goesL_ (some 10) rfl rfl Try.func21 (by kernel_rfl) rfl #[.int .i64 a0, .int .i64 a1, .int .i64 a2] rfl (by (try simp only [List.map_toArray, List.map_cons, List.map_nil]); first | done | rfl | (simp only [List.length_drop, List.length_take]; rfl)) ?_; (with_reducible refine (ssarewrite_ZZMergePPC64RShiftMask.calls a0 a1 a2 t102 _ A4.out).mono ?_); rintro e w' ⟨rfl, ⟨nd, rfl⟩⟩; refine ⟨_, rfl, ?_⟩))
  go_ret
  exact ⟨by first | rfl | (simp; done) | (simp [*]; done), by repeat (first | exact Drawn0.refl _ | apply Drawn0.step)⟩

/-! ### spec_Run: function 10 -/
def spec_Run.f (a0 : Int) (a1 : Int) : Option (Int) := if a1 ≥ 64 then (some 18446744073709551615) else (if 0 ≤ a1 then (if 0 ≤ a0 then (some (shl .u64 (IntKind.u64.wrap ((shl .u64 1 a1) - 1)) a0)) else (none)) else (none))
set_option maxHeartbeats 8000000 in
set_option maxRecDepth 100000 in
theorem spec_Run.calls (a0 : Int) (a1 : Int) (r : Int) (w : World) (h : spec_Run.f a0 a1 = some r) :
    Calls Try.prog 10 #[.int .u64 a0, .int .u64 a1] w fun e w' => e = .returned (.int .u64 r) ∧ Drawn0 w w' := by
  have H : (if a1 ≥ 64 then (some 18446744073709551615) else (if 0 ≤ a1 then (if 0 ≤ a0 then (some (shl .u64 (IntKind.u64.wrap ((shl .u64 1 a1) - 1)) a0)) else (none)) else (none))) = some r := h
  clear h
  by_cases c3 : a1 ≥ 64
  · rw [if_pos c3] at H
    have c3b0 : decide (64 ≤ a1) = true := decide_eq_true c3
    clear c3
    obtain rfl := Option.some.inj H
    go_enter Try.func10, Try.ntmps10
    go_wp2
    go_ret
    exact ⟨by first | rfl | (simp; done) | (simp [*]; done), by repeat (first | exact Drawn0.refl _ | apply Drawn0.step)⟩
  · rw [if_neg c3] at H
    have c3b0 : decide (64 ≤ a1) = false := decide_eq_false c3
    clear c3
    by_cases c4 : 0 ≤ a1
    · rw [if_pos c4] at H
      have c4b0 := eq_true c4
      have c4b1 : decide (0 ≤ a1) = true := decide_eq_true c4
      clear c4
      obtain ⟨ji5, hji5⟩ : ∃ j_ : Int, (shl .u64 1 a1) = j_ := ⟨_, rfl⟩
      replace H : (if 0 ≤ a0 then (some (shl .u64 (IntKind.u64.wrap ((ji5) - 1)) a0)) else (none)) = some r := by first | (rw [hji5] at H; exact H) | (simp only [hji5] at H ⊢; exact H)
      have hji5_ : (IntKind.u64.wrap (1 * 2 ^ min a1.toNat 64)) = ji5 := hji5
      have hji5z : a1 ≤ 64 → (IntKind.u64.wrap (1 * 2 ^ a1.toNat)) = ji5 := shl_small hji5
      have hji5u : (IntKind.u64.wrap (2 ^ min a1.toNat 64)) = ji5 := by have h_ := hji5_; rw [Int.one_mul] at h_; exact h_
      have hji5v : a1 ≤ 64 → (IntKind.u64.wrap (2 ^ a1.toNat)) = ji5 := fun hle_ => by have h_ := hji5z hle_; rw [Int.one_mul] at h_; exact h_
      by_cases c6 : 0 ≤ a0
      · rw [if_pos c6] at H
        have c6b0 := eq_true c6
        have c6b1 : decide (0 ≤ a0) = true := decide_eq_true c6
        clear c6
        obtain ⟨ji7, hji7⟩ : ∃ j_ : Int, (shl .u64 (IntKind.u64.wrap ((ji5) - 1)) a0) = j_ := ⟨_, rfl⟩
        replace H : (some ji7) = some r := by first | (rw [hji7] at H; exact H) | (simp only [hji7] at H ⊢; exact H)
        have hji7_ : (IntKind.u64.wrap ((IntKind.u64.wrap ((ji5) - 1)) * 2 ^ min a0.toNat 64)) = ji7 := hji7
        have hji7z : a0 ≤ 64 → (IntKind.u64.wrap ((IntKind.u64.wrap ((ji5) - 1)) * 2 ^ a0.toNat)) = ji7 := shl_small hji7
        obtain rfl := Option.some.inj H
        go_enter Try.func10, Try.ntmps10
        go_wp2
        go_ret
        exact ⟨by first | rfl | (simp; done) | (simp only [← hji5, ← hji7] <;> (first | rfl | simp)) | (simp [*]; done), by repeat (first | exact Drawn0.refl _ | apply Drawn0.step)⟩
      · rw [if_neg c6] at H
        exact absurd H (by simp)
    · rw [if_neg c4] at H
      exact absurd H (by simp)

/-! ### laws_FnRShiftMask: function 3 -/
def laws_FnRShiftMask.j0 : Nat → Int → Int → Int → Option (Bool)
  | 0, _, _, _ => none
  | k + 1, x0, x1, x7 => (laws_rwAt.f x1 (wrap64 (x7))).bind fun t103 => ((impl_RShiftMask.f x0 (wrap64 (IntKind.u64.wrap (t103))) (wrap64 (x7))).bind fun t104 => ((spec_Run.f 0 x7).bind fun t105 => (if 0 ≤ (IntKind.u64.wrap (t103)) then (if (IntKind.u64.wrap (t104)) = (Go.bits .and .u64 (IntKind.u64.wrap (x0)) (shr .u64 t105 (IntKind.u64.wrap (t103)))) then ((impl_RShiftMask.f 7 0 32).bind fun t106 => (some (t106 == 7))) else (some false)) else (none))))
def laws_FnRShiftMask.f (k : Nat) (a0 : Int) (a1 : Int) (a2 : Bool) : Option (Bool) := if a2 = true then (laws_FnRShiftMask.j0 k a0 a1 64) else (laws_FnRShiftMask.j0 k a0 a1 32)
theorem laws_FnRShiftMask.mono_l : ∀ k, (∀ y0 y1 y2, LeO (laws_FnRShiftMask.j0 k y0 y1 y2) (laws_FnRShiftMask.j0 (k + 1) y0 y1 y2))
  | 0 => fun _ _ _ r h => by simp [laws_FnRShiftMask.j0] at h
  | k + 1 => by
    have ih0 := laws_FnRShiftMask.mono_l k
    · intro y0 y1 y2
      unfold laws_FnRShiftMask.j0
      repeat' first
      | (with_reducible exact ih0 _ _ _)
      | (with_reducible exact LeO.refl _)
      | (with_reducible exact LeO.none _)
      | (with_reducible refine LeO.ite ?_ ?_)
      | (with_reducible refine LeO.bind ?_ (fun _ => ?_))
      | exact ih0 _ _ _
      | exact LeO.none _
      | refine LeO.ite ?_ ?_
      | refine LeO.bind ?_ (fun _ => ?_)
theorem laws_FnRShiftMask.mono : ∀ a0 a1 a2 k, LeO (laws_FnRShiftMask.f k a0 a1 a2) (laws_FnRShiftMask.f (k + 1) a0 a1 a2) := by
  intro a0 a1 a2 k
  have ih0 := laws_FnRShiftMask.mono_l k
  unfold laws_FnRShiftMask.f
  repeat' first
      | (with_reducible exact ih0 _ _ _)
      | (with_reducible exact LeO.refl _)
      | (with_reducible exact LeO.none _)
      | (with_reducible refine LeO.ite ?_ ?_)
      | (with_reducible refine LeO.bind ?_ (fun _ => ?_))
      | exact ih0 _ _ _
      | exact LeO.none _
      | refine LeO.ite ?_ ?_
      | refine LeO.bind ?_ (fun _ => ?_)
set_option maxHeartbeats 8000000 in
set_option maxRecDepth 100000 in
theorem laws_FnRShiftMask.calls (k : Nat) (a0 : Int) (a1 : Int) (a2 : Bool) (r : Bool) (w : World) (h : laws_FnRShiftMask.f k a0 a1 a2 = some r) :
    Calls Try.prog 3 #[.int .i64 a0, .int .i64 a1, .bool a2] w fun e w' => e = .returned (.bool r) ∧ Drawn0 w w' := by
  have H : (if a2 = true then (laws_FnRShiftMask.j0 k a0 a1 64) else (laws_FnRShiftMask.j0 k a0 a1 32)) = some r := h
  clear h
  have HC4 := Aside0.mk H
  clear H
  go_enter Try.func3, Try.ntmps3
  go_upto_if 9 with (fail)
  go_cut [7] (fun v7 wc => ∃ (kq : Nat) (x7_3 : Int), v7 = .int .u64 x7_3 ∧ Aside0 (laws_FnRShiftMask.j0 kq a0 a1 x7_3 = some r) ∧ Aside0 (kq ≤ k) ∧ Drawn0 w wc)
  case first =>
    have H := HC4.out
    clear HC4
    by_cases c5 : a2 = true
    · subst c5
      have H1 : (laws_FnRShiftMask.j0 k a0 a1 64) = some r := by rw [if_pos rfl] at H; exact H
      clear H
      have H := H1
      clear H1
      have H' := Aside0.mk H
      clear H
      go_wp2
      go_meet
      case rel => exact ⟨_, (64), (by first | rfl | (simp; done) | (simp [*]; done)), H', ⟨by first | omega | exact Nat.le_refl _⟩, by repeat (first | exact Drawn0.refl _ | apply Drawn0.step)⟩
    · replace c5 := Bool.eq_false_iff.mpr c5
      subst c5
      have H1 : (laws_FnRShiftMask.j0 k a0 a1 32) = some r := by rw [if_neg (show ¬ (false = true) by decide)] at H; exact H
      clear H
      have H := H1
      clear H1
      have H' := Aside0.mk H
      clear H
      go_wp2
      go_meet
      case rel => exact ⟨_, (32), (by first | rfl | (simp; done) | (simp [*]; done)), H', ⟨by first | omega | exact Nat.le_refl _⟩, by repeat (first | exact Drawn0.refl _ | apply Drawn0.step)⟩
  case rest =>
    clear HC4
    try clear p2
    try clear c3
    try clear c5
    obtain ⟨kq, x7_3, rfl, HA, HJ3, ⟨mc3, rfl⟩⟩ := hcut
    cases kq with
    | zero => exact absurd HA.out (by simp [laws_FnRShiftMask.j0])
    | succ kj3 =>
      have H := HA.out
      clear HA
      simp only [laws_FnRShiftMask.j0] at H
      replace H := Option.bind_eq_some_iff.mp H
      obtain ⟨t103, A60, H⟩ := H
      replace H : ((impl_RShiftMask.f a0 (wrap64 (IntKind.u64.wrap (t103))) (wrap64 (x7_3))).bind fun t104 => ((spec_Run.f 0 x7_3).bind fun t105 => (if 0 ≤ (IntKind.u64.wrap (t103)) then (if (IntKind.u64.wrap (t104)) = (Go.bits .and .u64 (IntKind.u64.wrap (a0)) (shr .u64 t105 (IntKind.u64.wrap (t103)))) then ((impl_RShiftMask.f 7 0 32).bind fun t106 => (some (t106 == 7))) else (some false)) else (none)))) = some r := H
      have A6 := Aside0.mk A60
      clear A60
      replace H := Option.bind_eq_some_iff.mp H
      obtain ⟨t104, A70, H⟩ := H
      replace H : ((spec_Run.f 0 x7_3).bind fun t105 => (if 0 ≤ (IntKind.u64.wrap (t103)) then (if (IntKind.u64.wrap (t104)) = (Go.bits .and .u64 (IntKind.u64.wrap (a0)) (shr .u64 t105 (IntKind.u64.wrap (t103)))) then ((impl_RShiftMask.f 7 0 32).bind fun t106 => (some (t106 == 7))) else (some false)) else (none))) = some r := H
      have A7 := Aside0.mk A70
      clear A70
      replace H := Option.bind_eq_some_iff.mp H
      obtain ⟨t105, A80, H⟩ := H
      replace H : (if 0 ≤ (IntKind.u64.wrap (t103)) then (if (IntKind.u64.wrap (t104)) = (Go.bits .and .u64 (IntKind.u64.wrap (a0)) (shr .u64 t105 (IntKind.u64.wrap (t103)))) then ((impl_RShiftMask.f 7 0 32).bind fun t106 => (some (t106 == 7))) else (some false)) else (none)) = some r := H
      have A8 := Aside0.mk A80
      clear A80
      obtain ⟨ji9, hji9⟩ : ∃ j_ : Int, (IntKind.u64.wrap (t103)) = j_ := ⟨_, rfl⟩
      replace H : (if 0 ≤ (ji9) then (if (IntKind.u64.wrap (t104)) = (Go.bits .and .u64 (IntKind.u64.wrap (a0)) (shr .u64 t105 (ji9))) then ((impl_RShiftMask.f 7 0 32).bind fun t106 => (some (t106 == 7))) else (some false)) else (none)) = some r := by first | (rw [hji9] at H; exact H) | (simp only [hji9] at H ⊢; exact H)
      (try rw [hji9] at A6)
      (try rw [hji9] at A7)
      (try rw [hji9] at A8)
      by_cases c10 : 0 ≤ (ji9)
      · rw [if_pos c10] at H
        have c10b0 := eq_true c10
        have c10b1 : decide (0 ≤ (ji9)) = true := decide_eq_true c10
        clear c10
        obtain ⟨ji11, hji11⟩ : ∃ j_ : Int, (shr .u64 t105 (ji9)) = j_ := ⟨_, rfl⟩
        replace H : (if (IntKind.u64.wrap (t104)) = (Go.bits .and .u64 (IntKind.u64.wrap (a0)) (ji11)) then ((impl_RShiftMask.f 7 0 32).bind fun t106 => (some (t106 == 7))) else (some false)) = some r := by first | (rw [hji11] at H; exact H) | (simp only [hji11] at H ⊢; exact H)
        (try rw [hji11] at A6)
        (try rw [hji11] at A7)
        (try rw [hji11] at A8)
        have hji11_ : (t105 / 2 ^ min (ji9).toNat 64) = ji11 := hji11
        have hji11z : (ji9) ≤ 64 → (t105 / 2 ^ (ji9).toNat) = ji11 := shr_small hji11
        by_cases c12 : (IntKind.u64.wrap (t104)) = (Go.bits .and .u64 (IntKind.u64.wrap (a0)) (ji11))
        · rw [if_pos c12] at H
          have c12b0 : ((IntKind.u64.wrap (t104)) == (Go.bits .and .u64 (IntKind.u64.wrap (a0)) (ji11))) = true := beq_iff_eq.mpr c12
          have c12b1 : ((IntKind.u64.wrap (t104)) != (Go.bits .and .u64 (IntKind.u64.wrap (a0)) (ji11))) = false := bne_eq_false_iff_eq.mpr c12
          clear c12
          replace H := Option.bind_eq_some_iff.mp H
          obtain ⟨t106, A130, H⟩ := H
          replace H : (some (t106 == 7)) = some r := H
          have A13 := Aside0.mk A130
          clear A130
          obtain rfl := Option.some.inj H
          go_wp2_with (first | ((with_reducible refine gate_callee (f := 8) rfl ?_); refine goesL_ (some 13) rfl rfl Try.func8 (by kernel_rfl) rfl #[.int .i64 a1, .int .i64 (wrap64 (x7_3))] rfl (by (try simp only [List.map_toArray, List.map_cons, List.map_nil]); first | done | rfl | (simp only [List.length_drop, List.length_take]; rfl)) ?_; (with_reducible refine (laws_rwAt.calls a1 (wrap64 (x7_3)) t103 _ A6.out).mono ?_); rintro e w' ⟨rfl, ⟨nd, rfl⟩⟩; refine ⟨_, rfl, ?_⟩) | ((with_reducible refine gate_callee (f := 9) rfl ?_); refine goesL_ (some 20) rfl rfl Try.func9 (by kernel_rfl) rfl #[.int .i64 a0, .int .i64 (wrap64 (ji9)), .int .i64 (wrap64 (x7_3))] rfl (by (try simp only [List.map_toArray, List.map_cons, List.map_nil]); first | done | (simp only [hji9]; rfl) | rfl | (simp only [List.length_drop, List.length_take]; rfl)) ?_; (with_reducible refine (impl_RShiftMask.calls a0 (wrap64 (ji9)) (wrap64 (x7_3)) t104 _ A7.out).mono ?_); rintro e w' ⟨rfl, ⟨nd, rfl⟩⟩; refine ⟨_, rfl, ?_⟩) | ((with_reducible refine gate_callee (f := 10) rfl ?_); refine goesL_ (some 25) rfl rfl Try.func10 (by kernel_rfl) rfl #[.int .u64 0, .int .u64 x7_3] rfl (by (try simp only [List.map_toArray, List.map_cons, List.map_nil]); first | done | rfl | (simp only [List.length_drop, List.length_take]; rfl)) ?_; (with_reducible refine (spec_Run.calls 0 x7_3 t105 _ A8.out).mono ?_); rintro e w' ⟨rfl, ⟨nd, rfl⟩⟩; refine ⟨_, rfl, ?_⟩) | (go_at_call 9; (with_reducible refine (impl_RShiftMask.calls 7 0 32 t106 _ A13.out).mono ?_); rintro e w' ⟨rfl, ⟨nd, rfl⟩⟩))
          go_ret
          exact ⟨by first | rfl | (simp; done) | (simp only [← hji9, ← hji11] <;> (first | rfl | simp)) | (simp [*]; done), by repeat (first | exact Drawn0.refl _ | apply Drawn0.step)⟩
        · rw [if_neg c12] at H
          have c12b0 : ((IntKind.u64.wrap (t104)) == (Go.bits .and .u64 (IntKind.u64.wrap (a0)) (ji11))) = false := beq_eq_false_iff_ne.mpr c12
          have c12b1 : ((IntKind.u64.wrap (t104)) != (Go.bits .and .u64 (IntKind.u64.wrap (a0)) (ji11))) = true := bne_iff_ne.mpr c12
          obtain rfl := Option.some.inj H
          go_wp2_with (first | ((with_reducible refine gate_callee (f := 8) rfl ?_); refine goesL_ (some 13) rfl rfl Try.func8 (by kernel_rfl) rfl #[.int .i64 a1, .int .i64 (wrap64 (x7_3))] rfl (by (try simp only [List.map_toArray, List.map_cons, List.map_nil]); first | done | rfl | (simp only [List.length_drop, List.length_take]; rfl)) ?_; (with_reducible refine (laws_rwAt.calls a1 (wrap64 (x7_3)) t103 _ A6.out).mono ?_); rintro e w' ⟨rfl, ⟨nd, rfl⟩⟩; refine ⟨_, rfl, ?_⟩) | ((with_reducible refine gate_callee (f := 9) rfl ?_); refine goesL_ (some 20) rfl rfl Try.func9 (by kernel_rfl) rfl #[.int .i64 a0, .int .i64 (wrap64 (ji9)), .int .i64 (wrap64 (x7_3))] rfl (by (try simp only [List.map_toArray, List.map_cons, List.map_nil]); first | done | (simp only [hji9]; rfl) | rfl | (simp only [List.length_drop, List.length_take]; rfl)) ?_; (with_reducible refine (impl_RShiftMask.calls a0 (wrap64 (ji9)) (wrap64 (x7_3)) t104 _ A7.out).mono ?_); rintro e w' ⟨rfl, ⟨nd, rfl⟩⟩; refine ⟨_, rfl, ?_⟩) | ((with_reducible refine gate_callee (f := 10) rfl ?_); refine goesL_ (some 25) rfl rfl Try.func10 (by kernel_rfl) rfl #[.int .u64 0, .int .u64 x7_3] rfl (by (try simp only [List.map_toArray, List.map_cons, List.map_nil]); first | done | rfl | (simp only [List.length_drop, List.length_take]; rfl)) ?_; (with_reducible refine (spec_Run.calls 0 x7_3 t105 _ A8.out).mono ?_); rintro e w' ⟨rfl, ⟨nd, rfl⟩⟩; refine ⟨_, rfl, ?_⟩))
          go_ret
          exact ⟨by first | rfl | (simp; done) | (simp only [← hji9, ← hji11] <;> (first | rfl | simp)) | (simp [*]; done), by repeat (first | exact Drawn0.refl _ | apply Drawn0.step)⟩
      · rw [if_neg c10] at H
        exact absurd H (by simp)

/-- THE ONE PURE STATEMENT of laws_FnRShiftMask: yours. -/
def laws_FnRShiftMask.Pure : Prop := ∀ (a0 : Int) (a1 : Int) (a2 : Bool), (Lit.int .i64 a0).wf = true → (Lit.int .i64 a1).wf = true → ∃ k, laws_FnRShiftMask.f k a0 a1 a2 = some true
theorem laws_FnRShiftMask.walk (P : laws_FnRShiftMask.Pure) (a0 : Int) (a1 : Int) (a2 : Bool) (w : World) (w0 : (Lit.int .i64 a0).wf = true) (w1 : (Lit.int .i64 a1).wf = true) :
    Calls Try.prog 3 #[.int .i64 a0, .int .i64 a1, .bool a2] w fun e w' => e = .returned (.bool true) ∧ Below w.heap.size w w' := by
  obtain ⟨k, h⟩ := P a0 a1 a2 w0 w1
  refine (laws_FnRShiftMask.calls k a0 a1 a2 true w h).mono ?_
  rintro e w' ⟨rfl, hd⟩
  exact ⟨rfl, hd.below⟩

end Go.Proofs.Ytmldgakbkachpaa.PFnRShiftMask
