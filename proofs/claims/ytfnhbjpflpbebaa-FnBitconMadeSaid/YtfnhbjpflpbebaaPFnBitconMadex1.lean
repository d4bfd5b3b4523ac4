-- PRINTED BY print.sh 35421559b90ae4d0a3588c463048766b98c2df88dd9212a6774a882060cdf62d: not written by this session
import Derived.Test.YtfnhbjpflpbebaaPFnBitconMadex0
namespace Go.Proofs.Ytfnhbjpflpbebaa.PFnBitconMade
open Go.RowKit Go.Proofs.YtfnhbjpflpbebaaW.PrintWords Go.Proofs.YtfnhbjpflpbebaaW.PrintLast Go.Proofs.YtfnhbjpflpbebaaW.PrintMore
attribute [local go_sem] max2_int min2_int max_two min_two max_three min_three max_four min_four   -- for this text's walks alone
set_option linter.unusedVariables false
set_option linter.unusedSimpArgs false

/-! ### laws_rwAt: function 14 -/
def laws_rwAt.f (a0 : Int) (a1 : Int) : Option (Int) := if a1 = 0 then (none) else (some (Int.tmod (wrap64 ((Int.tmod a0 a1) + a1)) a1))
set_option maxHeartbeats 8000000 in
set_option maxRecDepth 100000 in
theorem laws_rwAt.calls (a0 : Int) (a1 : Int) (r : Int) (w : World) (h : laws_rwAt.f a0 a1 = some r) :
    Calls Try.prog 14 #[.int .i64 a0, .int .i64 a1] w fun e w' => e = .returned (.int .i64 r) ∧ Drawn0 w w' := by
  have H : (if a1 = 0 then (none) else (some (Int.tmod (wrap64 ((Int.tmod a0 a1) + a1)) a1))) = some r := h
  clear h
  by_cases c3 : a1 = 0
  · rw [if_pos c3] at H
    exact absurd H (by simp)
  · rw [if_neg c3] at H
    have c3b0 : (a1 == 0) = false := beq_eq_false_iff_ne.mpr c3
    have c3b1 : (a1 != 0) = true := bne_iff_ne.mpr c3
    obtain rfl := Option.some.inj H
    go_enter Try.func14, Try.ntmps14
    go_wp2
    go_ret
    exact ⟨by first | rfl | (simp; done) | (simp [*]; done), by repeat (first | exact Drawn0.refl _ | apply Drawn0.step)⟩

/-! ### spec_Low: function 37 -/
def spec_Low.f (a0 : Int) (a1 : Int) : Option (Int) := if a1 ≥ 64 then (some a0) else (if 0 ≤ a1 then (if (shl .u64 1 a1) = 0 then (none) else (some (Int.tmod a0 (shl .u64 1 a1)))) else (none))
set_option maxHeartbeats 8000000 in
set_option maxRecDepth 100000 in
theorem spec_Low.calls (a0 : Int) (a1 : Int) (r : Int) (w : World) (h : spec_Low.f a0 a1 = some r) :
    Calls Try.prog 37 #[.int .u64 a0, .int .u64 a1] w fun e w' => e = .returned (.int .u64 r) ∧ Drawn0 w w' := by
  have H : (if a1 ≥ 64 then (some a0) else (if 0 ≤ a1 then (if (shl .u64 1 a1) = 0 then (none) else (some (Int.tmod a0 (shl .u64 1 a1)))) else (none))) = some r := h
  clear h
  by_cases c3 : a1 ≥ 64
  · rw [if_pos c3] at H
    have c3b0 : decide (64 ≤ a1) = true := decide_eq_true c3
    clear c3
    obtain rfl := Option.some.inj H
    go_enter Try.func37, Try.ntmps37
    go_wp2
    go_ret
    exact ⟨by first | rfl | (simp; done) | (simp [*]; done), by repeat (first | exact Drawn0.refl _ | apply Drawn0.step)⟩
  · rw [if_neg c3] at H
    have c3b0 : decide (64 ≤ a1) = false := decide_eq_false c3
    clear c3
    by_cases c4 : 0 ≤ a1
    · rw [if_pos c4] at H
      have c4b0 := eq_true c4
      have c4b1 : decide (0 ≤ a1) = true := decide_eq_true c4
      clear c4
      obtain ⟨ji5, hji5⟩ : ∃ j_ : Int, (shl .u64 1 a1) = j_ := ⟨_, rfl⟩
      replace H : (if (ji5) = 0 then (none) else (some (Int.tmod a0 (ji5)))) = some r := by first | (rw [hji5] at H; exact H) | (simp only [hji5] at H ⊢; exact H)
      have hji5_ : (IntKind.u64.wrap (1 * 2 ^ min a1.toNat 64)) = ji5 := hji5
      have hji5z : a1 ≤ 64 → (IntKind.u64.wrap (1 * 2 ^ a1.toNat)) = ji5 := shl_small hji5
      have hji5u : (IntKind.u64.wrap (2 ^ min a1.toNat 64)) = ji5 := by have h_ := hji5_; rw [Int.one_mul] at h_; exact h_
      have hji5v : a1 ≤ 64 → (IntKind.u64.wrap (2 ^ a1.toNat)) = ji5 := fun hle_ => by have h_ := hji5z hle_; rw [Int.one_mul] at h_; exact h_
      by_cases c6 : (ji5) = 0
      · rw [if_pos c6] at H
        exact absurd H (by simp)
      · rw [if_neg c6] at H
        have c6b0 : ((ji5) == 0) = false := beq_eq_false_iff_ne.mpr c6
        have c6b1 : ((ji5) != 0) = true := bne_iff_ne.mpr c6
        obtain rfl := Option.some.inj H
        go_enter Try.func37, Try.ntmps37
        go_wp2
        go_ret
        exact ⟨by first | rfl | (simp; done) | (simp only [← hji5] <;> (first | rfl | simp)) | (simp [*]; done), by repeat (first | exact Drawn0.refl _ | apply Drawn0.step)⟩
    · rw [if_neg c4] at H
      exact absurd H (by simp)

/-! ### spec_Repeat: function 15 -/
def spec_Repeat.l0 : Nat → Int → Int → Int → Int → Option (Int)
  | 0, _, _, _, _ => none
  | k + 1, x0, x1, x5, x6 => if x6 < 64 then ((spec_Low.f x0 x1).bind fun t101 => (if 0 ≤ x6 then (spec_Repeat.l0 k x0 x1 (Go.bits .or .u64 x5 (shl .u64 t101 x6)) (IntKind.u64.wrap (x6 + x1))) else (none))) else (some x5)
def spec_Repeat.f (k : Nat) (a0 : Int) (a1 : Int) : Option (Int) := spec_Repeat.l0 k a0 a1 0 0
theorem spec_Repeat.mono_l : ∀ k, (∀ y0 y1 y2 y3, LeO (spec_Repeat.l0 k y0 y1 y2 y3) (spec_Repeat.l0 (k + 1) y0 y1 y2 y3))
  | 0 => fun _ _ _ _ r h => by simp [spec_Repeat.l0] at h
  | k + 1 => by
    have ih0 := spec_Repeat.mono_l k
    · intro y0 y1 y2 y3
      unfold spec_Repeat.l0
      repeat' first
      | (with_reducible exact ih0 _ _ _ _)
      | (with_reducible exact LeO.refl _)
      | (with_reducible exact LeO.none _)
      | (with_reducible refine LeO.ite ?_ ?_)
      | (with_reducible refine LeO.bind ?_ (fun _ => ?_))
      | exact ih0 _ _ _ _
      | exact LeO.none _
      | refine LeO.ite ?_ ?_
      | refine LeO.bind ?_ (fun _ => ?_)
theorem spec_Repeat.mono : ∀ a0 a1 k, LeO (spec_Repeat.f k a0 a1) (spec_Repeat.f (k + 1) a0 a1) := by
  intro a0 a1 k
  have ih0 := spec_Repeat.mono_l k
  unfold spec_Repeat.f
  repeat' first
      | (with_reducible exact ih0 _ _ _ _)
      | (with_reducible exact LeO.refl _)
      | (with_reducible exact LeO.none _)
      | (with_reducible refine LeO.ite ?_ ?_)
      | (with_reducible refine LeO.bind ?_ (fun _ => ?_))
      | exact ih0 _ _ _ _
      | exact LeO.none _
      | refine LeO.ite ?_ ?_
      | refine LeO.bind ?_ (fun _ => ?_)
set_option maxHeartbeats 8000000 in
set_option maxRecDepth 100000 in
theorem spec_Repeat.calls (k : Nat) (a0 : Int) (a1 : Int) (r : Int) (w : World) (h : spec_Repeat.f k a0 a1 = some r) :
    Calls Try.prog 15 #[.int .u64 a0, .int .u64 a1] w fun e w' => e = .returned (.int .u64 r) ∧ Drawn0 w w' := by
  have H : (spec_Repeat.l0 k a0 a1 0 0) = some r := h
  clear h
  have H' := Aside0.mk H
  clear H
  go_enter Try.func15, Try.ntmps15
  go_wp2
  go_loopg [5, 6] k (fun kq v5 v6 w' => ∃ (x5_1 : Int) (x6_1 : Int), v5 = .int .u64 x5_1 ∧ v6 = .int .u64 x6_1 ∧ Aside0 (spec_Repeat.l0 kq a0 a1 x5_1 x6_1 = some r) ∧ Aside0 (kq ≤ k) ∧ Drawn0 w w')
  case atStart => exact ⟨(0), (0), (by first | rfl | (simp; done) | (simp [*]; done)), (by first | rfl | (simp; done) | (simp [*]; done)), H', ⟨Nat.le_refl _⟩, by repeat (first | exact Drawn0.refl _ | apply Drawn0.step)⟩
  case round =>
    clear H'
    try clear c1
    try clear p2
    obtain ⟨x5_1, x6_1, rfl, rfl, HA, HK1, ⟨m1, rfl⟩⟩ := hrel
    cases gk with
    | zero => exact absurd HA.out (by simp [spec_Repeat.l0])
    | succ k1 =>
      have H := HA.out
      clear HA
      simp only [spec_Repeat.l0] at H
      by_cases c3 : x6_1 < 64
      · rw [if_pos c3] at H
        have c3b0 : decide (x6_1 < 64) = true := decide_eq_true c3
        clear c3
        replace H := Option.bind_eq_some_iff.mp H
        obtain ⟨t101, A40, H⟩ := H
        replace H : (if 0 ≤ x6_1 then (spec_Repeat.l0 k1 a0 a1 (Go.bits .or .u64 x5_1 (shl .u64 t101 x6_1)) (IntKind.u64.wrap (x6_1 + a1))) else (none)) = some r := H
        have A4 := Aside0.mk A40
        clear A40
        by_cases c5 : 0 ≤ x6_1
        · rw [if_pos c5] at H
          have c5b0 := eq_true c5
          have c5b1 : decide (0 ≤ x6_1) = true := decide_eq_true c5
          clear c5
          obtain ⟨ji6, hji6⟩ : ∃ j_ : Int, (shl .u64 t101 x6_1) = j_ := ⟨_, rfl⟩
          replace H : (spec_Repeat.l0 k1 a0 a1 (Go.bits .or .u64 x5_1 (ji6)) (IntKind.u64.wrap (x6_1 + a1))) = some r := by first | (rw [hji6] at H; exact H) | (simp only [hji6] at H ⊢; exact H)
          (try rw [hji6] at A4)
          have hji6_ : (IntKind.u64.wrap (t101 * 2 ^ min x6_1.toNat 64)) = ji6 := hji6
          have hji6z : x6_1 ≤ 64 → (IntKind.u64.wrap (t101 * 2 ^ x6_1.toNat)) = ji6 := shl_small hji6
          have H' := Aside0.mk H
          clear H
          go_wp2_with (first | ((with_reducible refine gate_callee (f := 37) rfl ?_); refine goesL_ (some 15) rfl rfl Try.func37 (by kernel_rfl) rfl #[.int .u64 a0, .int .u64 a1] rfl (by (try simp only [List.map_toArray, List.map_cons, List.map_nil]); first | done | rfl | (simp only [List.length_drop, List.length_take]; rfl)) ?_; (with_reducible refine (spec_Low.calls a0 a1 t101 _ A4.out).mono ?_); rintro e w' ⟨rfl, ⟨nd, rfl⟩⟩; refine ⟨_, rfl, ?_⟩))
          go_roundg k1
          case measure => have := HK1.out; omega
          case rel => exact ⟨(Go.bits .or .u64 x5_1 (ji6)), (IntKind.u64.wrap (x6_1 + a1)), (by first | rfl | (simp; done) | (simp only [← hji6] <;> (first | rfl | simp)) | (simp [*]; done)), (by first | rfl | (simp; done) | (simp [*]; done)), H', ⟨by have := HK1.out; omega⟩, by repeat (first | exact Drawn0.refl _ | apply Drawn0.step)⟩
        · rw [if_neg c5] at H
          exact absurd H (by simp)
      · rw [if_neg c3] at H
        have c3b0 : decide (x6_1 < 64) = false := decide_eq_false c3
        clear c3
        obtain rfl := Option.some.inj H
        go_wp2
        go_ret
        exact ⟨by first | rfl | (simp; done) | (simp [*]; done), by repeat (first | exact Drawn0.refl _ | apply Drawn0.step)⟩

/-! ### spec_Turn: function 16 -/
def spec_Turn.f (a0 : Int) (a1 : Int) (a2 : Int) : Option (Int) := if a1 = 0 then (none) else ((spec_Low.f a0 a1).bind fun t102 => (if 0 ≤ (Int.tmod a2 a1) then (if 0 ≤ (IntKind.u64.wrap (a1 - (Int.tmod a2 a1))) then ((spec_Low.f (Go.bits .or .u64 (shl .u64 t102 (Int.tmod a2 a1)) (shr .u64 t102 (IntKind.u64.wrap (a1 - (Int.tmod a2 a1))))) a1).bind fun t103 => (some t103)) else (none)) else (none)))
set_option maxHeartbeats 8000000 in
set_option maxRecDepth 100000 in
theorem spec_Turn.calls (a0 : Int) (a1 : Int) (a2 : Int) (r : Int) (w : World) (h : spec_Turn.f a0 a1 a2 = some r) :
    Calls Try.prog 16 #[.int .u64 a0, .int .u64 a1, .int .u64 a2] w fun e w' => e = .returned (.int .u64 r) ∧ Drawn0 w w' := by
  have H : (if a1 = 0 then (none) else ((spec_Low.f a0 a1).bind fun t102 => (if 0 ≤ (Int.tmod a2 a1) then (if 0 ≤ (IntKind.u64.wrap (a1 - (Int.tmod a2 a1))) then ((spec_Low.f (Go.bits .or .u64 (shl .u64 t102 (Int.tmod a2 a1)) (shr .u64 t102 (IntKind.u64.wrap (a1 - (Int.tmod a2 a1))))) a1).bind fun t103 => (some t103)) else (none)) else (none)))) = some r := h
  clear h
  by_cases c4 : a1 = 0
  · rw [if_pos c4] at H
    exact absurd H (by simp)
  · rw [if_neg c4] at H
    have c4b0 : (a1 == 0) = false := beq_eq_false_iff_ne.mpr c4
    have c4b1 : (a1 != 0) = true := bne_iff_ne.mpr c4
    replace H := Option.bind_eq_some_iff.mp H
    obtain ⟨t102, A50, H⟩ := H
    replace H : (if 0 ≤ (Int.tmod a2 a1) then (if 0 ≤ (IntKind.u64.wrap (a1 - (Int.tmod a2 a1))) then ((spec_Low.f (Go.bits .or .u64 (shl .u64 t102 (Int.tmod a2 a1)) (shr .u64 t102 (IntKind.u64.wrap (a1 - (Int.tmod a2 a1))))) a1).bind fun t103 => (some t103)) else (none)) else (none)) = some r := H
    have A5 := Aside0.mk A50
    clear A50
    obtain ⟨ji6, hji6⟩ : ∃ j_ : Int, (Int.tmod a2 a1) = j_ := ⟨_, rfl⟩
    replace H : (if 0 ≤ (ji6) then (if 0 ≤ (IntKind.u64.wrap (a1 - (ji6))) then ((spec_Low.f (Go.bits .or .u64 (shl .u64 t102 (ji6)) (shr .u64 t102 (IntKind.u64.wrap (a1 - (ji6))))) a1).bind fun t103 => (some t103)) else (none)) else (none)) = some r := by first | (rw [hji6] at H; exact H) | (simp only [hji6] at H ⊢; exact H)
    (try rw [hji6] at A5)
    by_cases c7 : 0 ≤ (ji6)
    · rw [if_pos c7] at H
      have c7b0 := eq_true c7
      have c7b1 : decide (0 ≤ (ji6)) = true := decide_eq_true c7
      clear c7
      obtain ⟨ji8, hji8⟩ : ∃ j_ : Int, (shl .u64 t102 (ji6)) = j_ := ⟨_, rfl⟩
      replace H : (if 0 ≤ (IntKind.u64.wrap (a1 - (ji6))) then ((spec_Low.f (Go.bits .or .u64 (ji8) (shr .u64 t102 (IntKind.u64.wrap (a1 - (ji6))))) a1).bind fun t103 => (some t103)) else (none)) = some r := by first | (rw [hji8] at H; exact H) | (simp only [hji8] at H ⊢; exact H)
      (try rw [hji8] at A5)
      have hji8_ : (IntKind.u64.wrap (t102 * 2 ^ min (ji6).toNat 64)) = ji8 := hji8
      have hji8z : (ji6) ≤ 64 → (IntKind.u64.wrap (t102 * 2 ^ (ji6).toNat)) = ji8 := shl_small hji8
      obtain ⟨ji9, hji9⟩ : ∃ j_ : Int, (IntKind.u64.wrap (a1 - (ji6))) = j_ := ⟨_, rfl⟩
      replace H : (if 0 ≤ (ji9) then ((spec_Low.f (Go.bits .or .u64 (ji8) (shr .u64 t102 (ji9))) a1).bind fun t103 => (some t103)) else (none)) = some r := by first | (rw [hji9] at H; exact H) | (simp only [hji9] at H ⊢; exact H)
      (try rw [hji9] at A5)
      by_cases c10 : 0 ≤ (ji9)
      · rw [if_pos c10] at H
        have c10b0 := eq_true c10
        have c10b1 : decide (0 ≤ (ji9)) = true := decide_eq_true c10
        clear c10
        obtain ⟨ji11, hji11⟩ : ∃ j_ : Int, (shr .u64 t102 (ji9)) = j_ := ⟨_, rfl⟩
        replace H : ((spec_Low.f (Go.bits .or .u64 (ji8) (ji11)) a1).bind fun t103 => (some t103)) = some r := by first | (rw [hji11] at H; exact H) | (simp only [hji11] at H ⊢; exact H)
        (try rw [hji11] at A5)
        have hji11_ : (t102 / 2 ^ min (ji9).toNat 64) = ji11 := hji11
        have hji11z : (ji9) ≤ 64 → (t102 / 2 ^ (ji9).toNat) = ji11 := shr_small hji11
        replace H := Option.bind_eq_some_iff.mp H
        obtain ⟨t103, A120, H⟩ := H
        replace H : (some t103) = some r := H
        have A12 := Aside0.mk A120
        clear A120
        obtain rfl := Option.some.inj H
        go_enter Try.func16, Try.ntmps16
        go_wp2_with (first | ((with_reducible refine gate_callee (f := 37) rfl ?_); refine goesL_ (some 12) rfl rfl Try.func37 (by kernel_rfl) rfl #[.int .u64 a0, .int .u64 a1] rfl (by (try simp only [List.map_toArray, List.map_cons, List.map_nil]); first | done | rfl | (simp only [List.length_drop, List.length_take]; rfl)) ?_; (with_reducible refine (spec_Low.calls a0 a1 t102 _ A5.out).mono ?_); rintro e w' ⟨rfl, ⟨nd, rfl⟩⟩; refine ⟨_, rfl, ?_⟩) | ((with_reducible refine gate_callee (f := 37) rfl ?_); refine goesL_ (some 23) rfl rfl Try.func37 (by kernel_rfl) rfl #[.int .u64 (Go.bits .or .u64 (ji8) (ji11)), .int .u64 a1] rfl (by (try simp only [List.map_toArray, List.map_cons, List.map_nil]); first | done | (simp only [hji11, hji8]; rfl) | rfl | (simp only [List.length_drop, List.length_take]; rfl)) ?_; (with_reducible refine (spec_Low.calls (Go.bits .or .u64 (ji8) (ji11)) a1 t103 _ A12.out).mono ?_); rintro e w' ⟨rfl, ⟨nd, rfl⟩⟩; refine ⟨_, rfl, ?_⟩))
        go_ret
        exact ⟨by first | rfl | (simp; done) | (simp only [← hji6, ← hji8, ← hji9, ← hji11] <;> (first | rfl | simp)) | (simp [*]; done), by repeat (first | exact Drawn0.refl _ | apply Drawn0.step)⟩
      · rw [if_neg c10] at H
        exact absurd H (by simp)
    · rw [if_neg c7] at H
      exact absurd H (by simp)

/-! ### spec_Run: function 17 -/
def spec_Run.f (a0 : Int) (a1 : Int) : Option (Int) := if a1 ≥ 64 then (some 18446744073709551615) else (if 0 ≤ a1 then (if 0 ≤ a0 then (some (shl .u64 (IntKind.u64.wrap ((shl .u64 1 a1) - 1)) a0)) else (none)) else (none))
set_option maxHeartbeats 8000000 in
set_option maxRecDepth 100000 in
theorem spec_Run.calls (a0 : Int) (a1 : Int) (r : Int) (w : World) (h : spec_Run.f a0 a1 = some r) :
    Calls Try.prog 17 #[.int .u64 a0, .int .u64 a1] w fun e w' => e = .returned (.int .u64 r) ∧ Drawn0 w w' := by
  have H : (if a1 ≥ 64 then (some 18446744073709551615) else (if 0 ≤ a1 then (if 0 ≤ a0 then (some (shl .u64 (IntKind.u64.wrap ((shl .u64 1 a1) - 1)) a0)) else (none)) else (none))) = some r := h
  clear h
  by_cases c3 : a1 ≥ 64
  · rw [if_pos c3] at H
    have c3b0 : decide (64 ≤ a1) = true := decide_eq_true c3
    clear c3
    obtain rfl := Option.some.inj H
    go_enter Try.func17, Try.ntmps17
    go_wp2
    go_ret
    exact ⟨by first | rfl | (simp; done) | (simp [*]; done), by repeat (first | exact Drawn0.refl _ | apply Drawn0.step)⟩
  · rw [if_neg c3] at H
    have c3b0 : decide (64 ≤ a1) = false := decide_eq_false c3
    clear c3
    by_cases c4 : 0 ≤ a1
    · rw [if_pos c4] at H
      have c4b0 := eq_true c4
      have c4b1 : decide (0 ≤ a1) = true := decide_eq_true c4
      clear c4
      obtain ⟨ji5, hji5⟩ : ∃ j_ : Int, (shl .u64 1 a1) = j_ := ⟨_, rfl⟩
      replace H : (if 0 ≤ a0 then (some (shl .u64 (IntKind.u64.wrap ((ji5) - 1)) a0)) else (none)) = some r := by first | (rw [hji5] at H; exact H) | (simp only [hji5] at H ⊢; exact H)
      have hji5_ : (IntKind.u64.wrap (1 * 2 ^ min a1.toNat 64)) = ji5 := hji5
      have hji5z : a1 ≤ 64 → (IntKind.u64.wrap (1 * 2 ^ a1.toNat)) = ji5 := shl_small hji5
      have hji5u : (IntKind.u64.wrap (2 ^ min a1.toNat 64)) = ji5 := by have h_ := hji5_; rw [Int.one_mul] at h_; exact h_
      have hji5v : a1 ≤ 64 → (IntKind.u64.wrap (2 ^ a1.toNat)) = ji5 := fun hle_ => by have h_ := hji5z hle_; rw [Int.one_mul] at h_; exact h_
      by_cases c6 : 0 ≤ a0
      · rw [if_pos c6] at H
        have c6b0 := eq_true c6
        have c6b1 : decide (0 ≤ a0) = true := decide_eq_true c6
        clear c6
        obtain ⟨ji7, hji7⟩ : ∃ j_ : Int, (shl .u64 (IntKind.u64.wrap ((ji5) - 1)) a0) = j_ := ⟨_, rfl⟩
        replace H : (some ji7) = some r := by first | (rw [hji7] at H; exact H) | (simp only [hji7] at H ⊢; exact H)
        have hji7_ : (IntKind.u64.wrap ((IntKind.u64.wrap ((ji5) - 1)) * 2 ^ min a0.toNat 64)) = ji7 := hji7
        have hji7z : a0 ≤ 64 → (IntKind.u64.wrap ((IntKind.u64.wrap ((ji5) - 1)) * 2 ^ a0.toNat)) = ji7 := shl_small hji7
        obtain rfl := Option.some.inj H
        go_enter Try.func17, Try.ntmps17
        go_wp2
        go_ret
        exact ⟨by first | rfl | (simp; done) | (simp only [← hji5, ← hji7] <;> (first | rfl | simp)) | (simp [*]; done), by repeat (first | exact Drawn0.refl _ | apply Drawn0.step)⟩
      · rw [if_neg c6] at H
        exact absurd H (by simp)
    · rw [if_neg c4] at H
      exact absurd H (by simp)

/-! ### ssarewrite_sequenceOfOnes: function 74 -/
def ssarewrite_sequenceOfOnes.f (a0 : Int) : Option (Bool) := some ((Go.bits .and .u64 (IntKind.u64.wrap ((IntKind.u64.wrap ((Go.bits .and .u64 a0 (IntKind.u64.wrap (-a0))) + a0)) - 1)) (IntKind.u64.wrap ((Go.bits .and .u64 a0 (IntKind.u64.wrap (-a0))) + a0))) == 0)
set_option maxHeartbeats 8000000 in
set_option maxRecDepth 100000 in
theorem ssarewrite_sequenceOfOnes.calls (a0 : Int) (r : Bool) (w : World) (h : ssarewrite_sequenceOfOnes.f a0 = some r) :
    Calls Try.prog 74 #[.int .u64 a0] w fun e w' => e = .returned (.bool r) ∧ Drawn0 w w' := by
  have H : (some ((Go.bits .and .u64 (IntKind.u64.wrap ((IntKind.u64.wrap ((Go.bits .and .u64 a0 (IntKind.u64.wrap (-a0))) + a0)) - 1)) (IntKind.u64.wrap ((Go.bits .and .u64 a0 (IntKind.u64.wrap (-a0))) + a0))) == 0)) = some r := h
  clear h
  obtain rfl := Option.some.inj H
  go_enter Try.func74, Try.ntmps74
  go_wp2
  go_ret
  exact ⟨by first | rfl | (simp; done) | (simp [*]; done), by repeat (first | exact Drawn0.refl _ | apply Drawn0.step)⟩

-- NOT PRINTED: function 57 (ssarewrite_isARM64bitcon)

-- NOT PRINTED: function 38 (ssarewrite_ZZIsARM64bitcon)

-- NOT PRINTED: function 18 (impl_IsBitcon)

-- NOT PRINTED: function 5 (laws_FnBitconMade)

end Go.Proofs.Ytfnhbjpflpbebaa.PFnBitconMade
