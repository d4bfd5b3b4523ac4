-- PRINTED BY print.sh 35421559b90ae4d0a3588c463048766b98c2df88dd9212a6774a882060cdf62d: not written by this session
import Derived.Test.YtghjjcglapfjmaaPFnSequenceIsx0
namespace Go.Proofs.Ytghjjcglapfjmaa.PFnSequenceIs
open Go.RowKit Go.Proofs.YtghjjcglapfjmaaW.PrintWords Go.Proofs.YtghjjcglapfjmaaW.PrintLast Go.Proofs.YtghjjcglapfjmaaW.PrintMore
attribute [local go_sem] max2_int min2_int max_two min_two max_three min_three max_four min_four   -- for this text's walks alone
set_option linter.unusedVariables false
set_option linter.unusedSimpArgs false

/-! ### ssarewrite_sequenceOfOnes: function 11 -/
def ssarewrite_sequenceOfOnes.f (a0 : Int) : Option (Bool) := some ((Go.bits .and .u64 (IntKind.u64.wrap ((IntKind.u64.wrap ((Go.bits .and .u64 a0 (IntKind.u64.wrap (-a0))) + a0)) - 1)) (IntKind.u64.wrap ((Go.bits .and .u64 a0 (IntKind.u64.wrap (-a0))) + a0))) == 0)
set_option maxHeartbeats 8000000 in
set_option maxRecDepth 100000 in
theorem ssarewrite_sequenceOfOnes.calls (a0 : Int) (r : Bool) (w : World) (h : ssarewrite_sequenceOfOnes.f a0 = some r) :
    Calls Try.prog 11 #[.int .u64 a0] w fun e w' => e = .returned (.bool r) ∧ Drawn0 w w' := by
  have H : (some ((Go.bits .and .u64 (IntKind.u64.wrap ((IntKind.u64.wrap ((Go.bits .and .u64 a0 (IntKind.u64.wrap (-a0))) + a0)) - 1)) (IntKind.u64.wrap ((Go.bits .and .u64 a0 (IntKind.u64.wrap (-a0))) + a0))) == 0)) = some r := h
  clear h
  obtain rfl := Option.some.inj H
  go_enter Try.func11, Try.ntmps11
  go_wp2
  go_ret
  exact ⟨by first | rfl | (simp; done) | (simp [*]; done), by repeat (first | exact Drawn0.refl _ | apply Drawn0.step)⟩

/-! ### ssarewrite_ZZSequenceOfOnes: function 8 -/
def ssarewrite_ZZSequenceOfOnes.f (a0 : Int) : Option (Bool) := (ssarewrite_sequenceOfOnes.f a0).bind fun t101 => (some t101)
set_option maxHeartbeats 8000000 in
set_option maxRecDepth 100000 in
theorem ssarewrite_ZZSequenceOfOnes.calls (a0 : Int) (r : Bool) (w : World) (h : ssarewrite_ZZSequenceOfOnes.f a0 = some r) :
    Calls Try.prog 8 #[.int .u64 a0] w fun e w' => e = .returned (.bool r) ∧ Drawn0 w w' := by
  have H : ((ssarewrite_sequenceOfOnes.f a0).bind fun t101 => (some t101)) = some r := h
  clear h
  replace H := Option.bind_eq_some_iff.mp H
  obtain ⟨t101, A20, H⟩ := H
  replace H : (some t101) = some r := H
  have A2 := Aside0.mk A20
  clear A20
  obtain rfl := Option.some.inj H
  go_enter Try.func8, Try.ntmps8
  go_wp2_with (first | ((with_reducible refine gate_callee (f := 11) rfl ?_); refine goesL_ (some 4) rfl rfl Try.func11 (by kernel_rfl) rfl #[.int .u64 a0] rfl (by (try simp only [List.map_toArray, List.map_cons, List.map_nil]); first | done | rfl | (simp only [List.length_drop, List.length_take]; rfl)) ?_; (with_reducible refine (ssarewrite_sequenceOfOnes.calls a0 t101 _ A2.out).mono ?_); rintro e w' ⟨rfl, ⟨nd, rfl⟩⟩; refine ⟨_, rfl, ?_⟩))
  go_ret
  exact ⟨by first | rfl | (simp; done) | (simp [*]; done), by repeat (first | exact Drawn0.refl _ | apply Drawn0.step)⟩

/-! ### impl_SequenceOfOnes: function 5 -/
def impl_SequenceOfOnes.f (a0 : Int) : Option (Bool) := (ssarewrite_ZZSequenceOfOnes.f a0).bind fun t102 => (some t102)
set_option maxHeartbeats 8000000 in
set_option maxRecDepth 100000 in
theorem impl_SequenceOfOnes.calls (a0 : Int) (r : Bool) (w : World) (h : impl_SequenceOfOnes.f a0 = some r) :
    Calls Try.prog 5 #[.int .u64 a0] w fun e w' => e = .returned (.bool r) ∧ Drawn0 w w' := by
  have H : ((ssarewrite_ZZSequenceOfOnes.f a0).bind fun t102 => (some t102)) = some r := h
  clear h
  replace H := Option.bind_eq_some_iff.mp H
  obtain ⟨t102, A20, H⟩ := H
  replace H : (some t102) = some r := H
  have A2 := Aside0.mk A20
  clear A20
  obtain rfl := Option.some.inj H
  go_enter Try.func5, Try.ntmps5
  go_wp2_with (first | ((with_reducible refine gate_callee (f := 8) rfl ?_); refine goesL_ (some 4) rfl rfl Try.func8 (by kernel_rfl) rfl #[.int .u64 a0] rfl (by (try simp only [List.map_toArray, List.map_cons, List.map_nil]); first | done | rfl | (simp only [List.length_drop, List.length_take]; rfl)) ?_; (with_reducible refine (ssarewrite_ZZSequenceOfOnes.calls a0 t102 _ A2.out).mono ?_); rintro e w' ⟨rfl, ⟨nd, rfl⟩⟩; refine ⟨_, rfl, ?_⟩))
  go_ret
  exact ⟨by first | rfl | (simp; done) | (simp [*]; done), by repeat (first | exact Drawn0.refl _ | apply Drawn0.step)⟩

/-! ### spec_bit: function 9 -/
def spec_bit.f (a0 : Int) (a1 : Int) : Option (Int) := if 0 ≤ a1 then (some (Int.tmod (shr .u64 a0 a1) 2)) else (none)
set_option maxHeartbeats 8000000 in
set_option maxRecDepth 100000 in
theorem spec_bit.calls (a0 : Int) (a1 : Int) (r : Int) (w : World) (h : spec_bit.f a0 a1 = some r) :
    Calls Try.prog 9 #[.int .u64 a0, .int .u64 a1] w fun e w' => e = .returned (.int .u64 r) ∧ Drawn0 w w' := by
  have H : (if 0 ≤ a1 then (some (Int.tmod (shr .u64 a0 a1) 2)) else (none)) = some r := h
  clear h
  by_cases c3 : 0 ≤ a1
  · rw [if_pos c3] at H
    have c3b0 := eq_true c3
    have c3b1 : decide (0 ≤ a1) = true := decide_eq_true c3
    clear c3
    obtain ⟨ji4, hji4⟩ : ∃ j_ : Int, (shr .u64 a0 a1) = j_ := ⟨_, rfl⟩
    replace H : (some (Int.tmod (ji4) 2)) = some r := by first | (rw [hji4] at H; exact H) | (simp only [hji4] at H ⊢; exact H)
    have hji4_ : (a0 / 2 ^ min a1.toNat 64) = ji4 := hji4
    have hji4z : a1 ≤ 64 → (a0 / 2 ^ a1.toNat) = ji4 := shr_small hji4
    obtain rfl := Option.some.inj H
    go_enter Try.func9, Try.ntmps9
    go_wp2
    go_ret
    exact ⟨by first | rfl | (simp; done) | (simp only [← hji4] <;> (first | rfl | simp)) | (simp [*]; done), by repeat (first | exact Drawn0.refl _ | apply Drawn0.step)⟩
  · rw [if_neg c3] at H
    exact absurd H (by simp)

/-! ### spec_IsRun: function 6 -/
def spec_IsRun.l0 : Nat → Int → Int → Int → Option (Bool)
  | 0, _, _, _ => none
  | k + 1, x0, x3, x5 => if x5 < 64 then ((spec_bit.f x0 x5).bind fun t103 => (if t103 = 1 then (if x5 = 0 then (spec_IsRun.l0 k x0 (wrap64 (x3 + 1)) (IntKind.u64.wrap (x5 + 1))) else ((spec_bit.f x0 (IntKind.u64.wrap (x5 - 1))).bind fun t104 => (if t104 = 0 then (spec_IsRun.l0 k x0 (wrap64 (x3 + 1)) (IntKind.u64.wrap (x5 + 1))) else (spec_IsRun.l0 k x0 x3 (IntKind.u64.wrap (x5 + 1)))))) else (spec_IsRun.l0 k x0 x3 (IntKind.u64.wrap (x5 + 1))))) else (some (x3 == 1))
def spec_IsRun.f (k : Nat) (a0 : Int) : Option (Bool) := spec_IsRun.l0 k a0 0 0
theorem spec_IsRun.mono_l : ∀ k, (∀ y0 y1 y2, LeO (spec_IsRun.l0 k y0 y1 y2) (spec_IsRun.l0 (k + 1) y0 y1 y2))
  | 0 => fun _ _ _ r h => by simp [spec_IsRun.l0] at h
  | k + 1 => by
    have ih0 := spec_IsRun.mono_l k
    · intro y0 y1 y2
      unfold spec_IsRun.l0
      repeat' first
      | (with_reducible exact ih0 _ _ _)
      | (with_reducible exact LeO.refl _)
      | (with_reducible exact LeO.none _)
      | (with_reducible refine LeO.ite ?_ ?_)
      | (with_reducible refine LeO.bind ?_ (fun _ => ?_))
      | exact ih0 _ _ _
      | exact LeO.none _
      | refine LeO.ite ?_ ?_
      | refine LeO.bind ?_ (fun _ => ?_)
theorem spec_IsRun.mono : ∀ a0 k, LeO (spec_IsRun.f k a0) (spec_IsRun.f (k + 1) a0) := by
  intro a0 k
  have ih0 := spec_IsRun.mono_l k
  unfold spec_IsRun.f
  repeat' first
      | (with_reducible exact ih0 _ _ _)
      | (with_reducible exact LeO.refl _)
      | (with_reducible exact LeO.none _)
      | (with_reducible refine LeO.ite ?_ ?_)
      | (with_reducible refine LeO.bind ?_ (fun _ => ?_))
      | exact ih0 _ _ _
      | exact LeO.none _
      | refine LeO.ite ?_ ?_
      | refine LeO.bind ?_ (fun _ => ?_)
set_option maxHeartbeats 8000000 in
set_option maxRecDepth 100000 in
theorem spec_IsRun.calls (k : Nat) (a0 : Int) (r : Bool) (w : World) (h : spec_IsRun.f k a0 = some r) :
    Calls Try.prog 6 #[.int .u64 a0] w fun e w' => e = .returned (.bool r) ∧ Drawn0 w w' := by
  have H : (spec_IsRun.l0 k a0 0 0) = some r := h
  clear h
  have H' := Aside0.mk H
  clear H
  go_enter Try.func6, Try.ntmps6
  go_wp2
  go_loopg [3, 5] k (fun kq v3 v5 w' => ∃ (x3_1 : Int) (x5_1 : Int), v3 = .int .i64 x3_1 ∧ v5 = .int .u64 x5_1 ∧ Aside0 (spec_IsRun.l0 kq a0 x3_1 x5_1 = some r) ∧ Aside0 (kq ≤ k) ∧ Drawn0 w w')
  case atStart => exact ⟨(0), (0), (by first | rfl | (simp; done) | (simp [*]; done)), (by first | rfl | (simp; done) | (simp [*]; done)), H', ⟨Nat.le_refl _⟩, by repeat (first | exact Drawn0.refl _ | apply Drawn0.step)⟩
  case round =>
    clear H'
    obtain ⟨x3_1, x5_1, rfl, rfl, HA, HK1, ⟨m1, rfl⟩⟩ := hrel
    cases gk with
    | zero => exact absurd HA.out (by simp [spec_IsRun.l0])
    | succ k1 =>
      have H := HA.out
      clear HA
      simp only [spec_IsRun.l0] at H
      by_cases c2 : x5_1 < 64
      · rw [if_pos c2] at H
        have c2b0 : decide (x5_1 < 64) = true := decide_eq_true c2
        clear c2
        replace H := Option.bind_eq_some_iff.mp H
        obtain ⟨t103, A30, H⟩ := H
        replace H : (if t103 = 1 then (if x5_1 = 0 then (spec_IsRun.l0 k1 a0 (wrap64 (x3_1 + 1)) (IntKind.u64.wrap (x5_1 + 1))) else ((spec_bit.f a0 (IntKind.u64.wrap (x5_1 - 1))).bind fun t104 => (if t104 = 0 then (spec_IsRun.l0 k1 a0 (wrap64 (x3_1 + 1)) (IntKind.u64.wrap (x5_1 + 1))) else (spec_IsRun.l0 k1 a0 x3_1 (IntKind.u64.wrap (x5_1 + 1)))))) else (spec_IsRun.l0 k1 a0 x3_1 (IntKind.u64.wrap (x5_1 + 1)))) = some r := H
        have A3 := Aside0.mk A30
        clear A30
        by_cases c4 : t103 = 1
        · rw [if_pos c4] at H
          have c4b0 : (t103 == 1) = true := beq_iff_eq.mpr c4
          have c4b1 : (t103 != 1) = false := bne_eq_false_iff_eq.mpr c4
          clear c4
          by_cases c5 : x5_1 = 0
          · rw [if_pos c5] at H
            have c5b0 : (x5_1 == 0) = true := beq_iff_eq.mpr c5
            have c5b1 : (x5_1 != 0) = false := bne_eq_false_iff_eq.mpr c5
            clear c5
            have H' := Aside0.mk H
            clear H
            go_wp2_with (first | ((with_reducible refine gate_callee (f := 9) rfl ?_); refine goesL_ (some 10) rfl rfl Try.func9 (by kernel_rfl) rfl #[.int .u64 a0, .int .u64 x5_1] rfl (by (try simp only [List.map_toArray, List.map_cons, List.map_nil]); first | done | rfl | (simp only [List.length_drop, List.length_take]; rfl)) ?_; (with_reducible refine (spec_bit.calls a0 x5_1 t103 _ A3.out).mono ?_); rintro e w' ⟨rfl, ⟨nd, rfl⟩⟩; refine ⟨_, rfl, ?_⟩))
            go_roundg k1
            case measure => have := HK1.out; omega
            case rel => exact ⟨(wrap64 (x3_1 + 1)), (IntKind.u64.wrap (x5_1 + 1)), (by first | rfl | (simp; done) | (simp [*]; done)), (by first | rfl | (simp; done) | (simp [*]; done)), H', ⟨by have := HK1.out; omega⟩, by repeat (first | exact Drawn0.refl _ | apply Drawn0.step)⟩
          · rw [if_neg c5] at H
            have c5b0 : (x5_1 == 0) = false := beq_eq_false_iff_ne.mpr c5
            have c5b1 : (x5_1 != 0) = true := bne_iff_ne.mpr c5
            replace H := Option.bind_eq_some_iff.mp H
            obtain ⟨t104, A60, H⟩ := H
            replace H : (if t104 = 0 then (spec_IsRun.l0 k1 a0 (wrap64 (x3_1 + 1)) (IntKind.u64.wrap (x5_1 + 1))) else (spec_IsRun.l0 k1 a0 x3_1 (IntKind.u64.wrap (x5_1 + 1)))) = some r := H
            have A6 := Aside0.mk A60
            clear A60
            by_cases c7 : t104 = 0
            · rw [if_pos c7] at H
              have c7b0 : (t104 == 0) = true := beq_iff_eq.mpr c7
              have c7b1 : (t104 != 0) = false := bne_eq_false_iff_eq.mpr c7
              clear c7
              have H' := Aside0.mk H
              clear H
              go_wp2_with (first | ((with_reducible refine gate_callee (f := 9) rfl ?_); refine goesL_ (some 10) rfl rfl Try.func9 (by kernel_rfl) rfl #[.int .u64 a0, .int .u64 x5_1] rfl (by (try simp only [List.map_toArray, List.map_cons, List.map_nil]); first | done | rfl | (simp only [List.length_drop, List.length_take]; rfl)) ?_; (with_reducible refine (spec_bit.calls a0 x5_1 t103 _ A3.out).mono ?_); rintro e w' ⟨rfl, ⟨nd, rfl⟩⟩; refine ⟨_, rfl, ?_⟩) | (go_at_call 9; (with_reducible refine (spec_bit.calls a0 (IntKind.u64.wrap (x5_1 - 1)) t104 _ A6.out).mono ?_); rintro e w' ⟨rfl, ⟨nd, rfl⟩⟩))
              go_roundg k1
              case measure => have := HK1.out; omega
              case rel => exact ⟨(wrap64 (x3_1 + 1)), (IntKind.u64.wrap (x5_1 + 1)), (by first | rfl | (simp; done) | (simp [*]; done)), (by first | rfl | (simp; done) | (simp [*]; done)), H', ⟨by have := HK1.out; omega⟩, by repeat (first | exact Drawn0.refl _ | apply Drawn0.step)⟩
            · rw [if_neg c7] at H
              have c7b0 : (t104 == 0) = false := beq_eq_false_iff_ne.mpr c7
              have c7b1 : (t104 != 0) = true := bne_iff_ne.mpr c7
              have H' := Aside0.mk H
              clear H
              go_wp2_with (first | ((with_reducible refine gate_callee (f := 9) rfl ?_); refine goesL_ (some 10) rfl rfl Try.func9 (by kernel_rfl) rfl #[.int .u64 a0, .int .u64 x5_1] rfl (by (try simp only [List.map_toArray, List.map_cons, List.map_nil]); first | done | rfl | (simp only [List.length_drop, List.length_take]; rfl)) ?_; (with_reducible refine (spec_bit.calls a0 x5_1 t103 _ A3.out).mono ?_); rintro e w' ⟨rfl, ⟨nd, rfl⟩⟩; refine ⟨_, rfl, ?_⟩) | (go_at_call 9; (with_reducible refine (spec_bit.calls a0 (IntKind.u64.wrap (x5_1 - 1)) t104 _ A6.out).mono ?_); rintro e w' ⟨rfl, ⟨nd, rfl⟩⟩))
              go_roundg k1
              case measure => have := HK1.out; omega
              case rel => exact ⟨(x3_1), (IntKind.u64.wrap (x5_1 + 1)), (by first | rfl | (simp; done) | (simp [*]; done)), (by first | rfl | (simp; done) | (simp [*]; done)), H', ⟨by have := HK1.out; omega⟩, by repeat (first | exact Drawn0.refl _ | apply Drawn0.step)⟩
        · rw [if_neg c4] at H
          have c4b0 : (t103 == 1) = false := beq_eq_false_iff_ne.mpr c4
          have c4b1 : (t103 != 1) = true := bne_iff_ne.mpr c4
          have H' := Aside0.mk H
          clear H
          go_wp2_with (first | ((with_reducible refine gate_callee (f := 9) rfl ?_); refine goesL_ (some 10) rfl rfl Try.func9 (by kernel_rfl) rfl #[.int .u64 a0, .int .u64 x5_1] rfl (by (try simp only [List.map_toArray, List.map_cons, List.map_nil]); first | done | rfl | (simp only [List.length_drop, List.length_take]; rfl)) ?_; (with_reducible refine (spec_bit.calls a0 x5_1 t103 _ A3.out).mono ?_); rintro e w' ⟨rfl, ⟨nd, rfl⟩⟩; refine ⟨_, rfl, ?_⟩))
          go_roundg k1
          case measure => have := HK1.out; omega
          case rel => exact ⟨(x3_1), (IntKind.u64.wrap (x5_1 + 1)), (by first | rfl | (simp; done) | (simp [*]; done)), (by first | rfl | (simp; done) | (simp [*]; done)), H', ⟨by have := HK1.out; omega⟩, by repeat (first | exact Drawn0.refl _ | apply Drawn0.step)⟩
      · rw [if_neg c2] at H
        have c2b0 : decide (x5_1 < 64) = false := decide_eq_false c2
        clear c2
        obtain rfl := Option.some.inj H
        go_wp2
        go_ret
        exact ⟨by first | rfl | (simp; done) | (simp [*]; done), by repeat (first | exact Drawn0.refl _ | apply Drawn0.step)⟩

/-! ### laws_FnSequenceIs: function 3 -/
def laws_FnSequenceIs.f (k : Nat) (a0 : Int) : Option (Bool) := if a0 = 0 then ((impl_SequenceOfOnes.f 12).bind fun t105 => (some t105)) else ((impl_SequenceOfOnes.f a0).bind fun t106 => ((spec_IsRun.f k a0).bind fun t107 => (if (t106 == t107) = true then ((impl_SequenceOfOnes.f 12).bind fun t108 => (some t108)) else (some false))))
theorem laws_FnSequenceIs.mono : ∀ a0 k, LeO (laws_FnSequenceIs.f k a0) (laws_FnSequenceIs.f (k + 1) a0) := by
  intro a0 k
  unfold laws_FnSequenceIs.f
  repeat' first
      | (with_reducible exact spec_IsRun.mono _ _)
      | (with_reducible exact LeO.refl _)
      | (with_reducible exact LeO.none _)
      | (with_reducible refine LeO.ite ?_ ?_)
      | (with_reducible refine LeO.bind ?_ (fun _ => ?_))
      | exact spec_IsRun.mono _ _
      | exact LeO.none _
      | refine LeO.ite ?_ ?_
      | refine LeO.bind ?_ (fun _ => ?_)
set_option maxHeartbeats 8000000 in
set_option maxRecDepth 100000 in
theorem laws_FnSequenceIs.calls (k : Nat) (a0 : Int) (r : Bool) (w : World) (h : laws_FnSequenceIs.f k a0 = some r) :
    Calls Try.prog 3 #[.int .u64 a0] w fun e w' => e = .returned (.bool r) ∧ Drawn0 w w' := by
  have H : (if a0 = 0 then ((impl_SequenceOfOnes.f 12).bind fun t105 => (some t105)) else ((impl_SequenceOfOnes.f a0).bind fun t106 => ((spec_IsRun.f k a0).bind fun t107 => (if (t106 == t107) = true then ((impl_SequenceOfOnes.f 12).bind fun t108 => (some t108)) else (some false))))) = some r := h
  clear h
  by_cases c2 : a0 = 0
  · rw [if_pos c2] at H
    have c2b0 : (a0 == 0) = true := beq_iff_eq.mpr c2
    have c2b1 : (a0 != 0) = false := bne_eq_false_iff_eq.mpr c2
    clear c2
    replace H := Option.bind_eq_some_iff.mp H
    obtain ⟨t105, A30, H⟩ := H
    replace H : (some t105) = some r := H
    have A3 := Aside0.mk A30
    clear A30
    obtain rfl := Option.some.inj H
    go_enter Try.func3, Try.ntmps3
    go_wp2_with (first | (go_at_call 5; (with_reducible refine (impl_SequenceOfOnes.calls 12 t105 _ A3.out).mono ?_); rintro e w' ⟨rfl, ⟨nd, rfl⟩⟩))
    go_ret
    exact ⟨by first | rfl | (simp; done) | (simp [*]; done), by repeat (first | exact Drawn0.refl _ | apply Drawn0.step)⟩
  · rw [if_neg c2] at H
    have c2b0 : (a0 == 0) = false := beq_eq_false_iff_ne.mpr c2
    have c2b1 : (a0 != 0) = true := bne_iff_ne.mpr c2
    replace H := Option.bind_eq_some_iff.mp H
    obtain ⟨t106, A40, H⟩ := H
    replace H : ((spec_IsRun.f k a0).bind fun t107 => (if (t106 == t107) = true then ((impl_SequenceOfOnes.f 12).bind fun t108 => (some t108)) else (some false))) = some r := H
    have A4 := Aside0.mk A40
    clear A40
    replace H := Option.bind_eq_some_iff.mp H
    obtain ⟨t107, A50, H⟩ := H
    replace H : (if (t106 == t107) = true then ((impl_SequenceOfOnes.f 12).bind fun t108 => (some t108)) else (some false)) = some r := H
    have A5 := Aside0.mk A50
    clear A50
    by_cases c6 : (t106 == t107) = true
    · rw [if_pos c6] at H
      have c6b0 : (t106 == t107) = true := c6
      (try (have c6b1 : decide (t106 = t107) = true := by simpa using c6))
      (try (have c6b2 : (t106 == t107) = true := by simpa using c6))
      clear c6
      replace H := Option.bind_eq_some_iff.mp H
      obtain ⟨t108, A70, H⟩ := H
      replace H : (some t108) = some r := H
      have A7 := Aside0.mk A70
      clear A70
      obtain rfl := Option.some.inj H
      go_enter Try.func3, Try.ntmps3
      go_wp2_with (first | (go_at_call 5; (with_reducible refine (impl_SequenceOfOnes.calls a0 t106 _ A4.out).mono ?_); rintro e w' ⟨rfl, ⟨nd, rfl⟩⟩) | (go_at_call 6; (with_reducible refine (spec_IsRun.calls k a0 t107 _ A5.out).mono ?_); rintro e w' ⟨rfl, ⟨nd, rfl⟩⟩) | (go_at_call 5; (with_reducible refine (impl_SequenceOfOnes.calls 12 t108 _ A7.out).mono ?_); rintro e w' ⟨rfl, ⟨nd, rfl⟩⟩))
      go_ret
      exact ⟨by first | rfl | (simp; done) | (simp [*]; done), by repeat (first | exact Drawn0.refl _ | apply Drawn0.step)⟩
    · rw [if_neg c6] at H
      have c6b0 : (t106 == t107) = false := by simpa using c6
      (try (have c6b1 : decide (t106 = t107) = false := by simpa using c6))
      (try (have c6b2 : (t106 == t107) = false := by simpa using c6))
      (try (have c6b3 : ¬ (t106 = t107) := by simpa using c6))
      clear c6
      obtain rfl := Option.some.inj H
      go_enter Try.func3, Try.ntmps3
      go_wp2_with (first | (go_at_call 5; (with_reducible refine (impl_SequenceOfOnes.calls a0 t106 _ A4.out).mono ?_); rintro e w' ⟨rfl, ⟨nd, rfl⟩⟩) | (go_at_call 6; (with_reducible refine (spec_IsRun.calls k a0 t107 _ A5.out).mono ?_); rintro e w' ⟨rfl, ⟨nd, rfl⟩⟩))
      go_ret
      exact ⟨by first | rfl | (simp; done) | (simp [*]; done), by repeat (first | exact Drawn0.refl _ | apply Drawn0.step)⟩

/-- THE ONE PURE STATEMENT of laws_FnSequenceIs: yours. -/
def laws_FnSequenceIs.Pure : Prop := ∀ (a0 : Int), (Lit.int .u64 a0).wf = true → ∃ k, laws_FnSequenceIs.f k a0 = some true
theorem laws_FnSequenceIs.walk (P : laws_FnSequenceIs.Pure) (a0 : Int) (w : World) (w0 : (Lit.int .u64 a0).wf = true) :
    Calls Try.prog 3 #[.int .u64 a0] w fun e w' => e = .returned (.bool true) ∧ Below w.heap.size w w' := by
  obtain ⟨k, h⟩ := P a0 w0
  refine (laws_FnSequenceIs.calls k a0 true w h).mono ?_
  rintro e w' ⟨rfl, hd⟩
  exact ⟨rfl, hd.below⟩

end Go.Proofs.Ytghjjcglapfjmaa.PFnSequenceIs
