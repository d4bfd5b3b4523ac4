-- PRINTED BY print.sh 35421559b90ae4d0a3588c463048766b98c2df88dd9212a6774a882060cdf62d: not written by this session
import Derived.Test.YtffpghicoalmhaaPFnRangesOverlapx0
namespace Go.Proofs.Ytffpghicoalmhaa.PFnRangesOverlap
open Go.RowKit Go.Proofs.YtffpghicoalmhaaW.PrintWords Go.Proofs.YtffpghicoalmhaaW.PrintLast Go.Proofs.YtffpghicoalmhaaW.PrintMore
attribute [local go_sem] max2_int min2_int max_two min_two max_three min_three max_four min_four   -- for this text's walks alone
set_option linter.unusedVariables false
set_option linter.unusedSimpArgs false

/-! ### laws_rwAt: function 23 -/
def laws_rwAt.f (a0 : Int) (a1 : Int) : Option (Int) := if a1 = 0 then (none) else (some (Int.tmod (wrap64 ((Int.tmod a0 a1) + a1)) a1))
set_option maxHeartbeats 8000000 in
set_option maxRecDepth 100000 in
theorem laws_rwAt.calls (a0 : Int) (a1 : Int) (r : Int) (w : World) (h : laws_rwAt.f a0 a1 = some r) :
    Calls Try.prog 23 #[.int .i64 a0, .int .i64 a1] w fun e w' => e = .returned (.int .i64 r) ∧ Drawn0 w w' := by
  have H : (if a1 = 0 then (none) else (some (Int.tmod (wrap64 ((Int.tmod a0 a1) + a1)) a1))) = some r := h
  clear h
  by_cases c3 : a1 = 0
  · rw [if_pos c3] at H
    exact absurd H (by simp)
  · rw [if_neg c3] at H
    have c3b0 : (a1 == 0) = false := beq_eq_false_iff_ne.mpr c3
    have c3b1 : (a1 != 0) = true := bne_iff_ne.mpr c3
    obtain rfl := Option.some.inj H
    go_enter Try.func23, Try.ntmps23
    go_wp2
    go_ret
    exact ⟨by first | rfl | (simp; done) | (simp [*]; done), by repeat (first | exact Drawn0.refl _ | apply Drawn0.step)⟩

/-! ### ssarewrite_overlap: function 65 -/
def ssarewrite_overlap.j0 : Nat → Int → Int → Int → Bool → Option (Bool)
  | 0, _, _, _, _ => none
  | k + 1, x0, x1, x2, x18 => if x18 = true then (some true) else (if x2 ≥ x0 then (if (wrap64 (x0 + x1)) > x2 then (some true) else (some false)) else (some false))
def ssarewrite_overlap.f (k : Nat) (a0 : Int) (a1 : Int) (a2 : Int) (a3 : Int) : Option (Bool) := if a0 ≥ a2 then (ssarewrite_overlap.j0 k a0 a1 a2 (decide ((wrap64 (a2 + a3)) > a0))) else (ssarewrite_overlap.j0 k a0 a1 a2 false)
theorem ssarewrite_overlap.mono_l : ∀ k, (∀ y0 y1 y2 y3, LeO (ssarewrite_overlap.j0 k y0 y1 y2 y3) (ssarewrite_overlap.j0 (k + 1) y0 y1 y2 y3))
  | 0 => fun _ _ _ _ r h => by simp [ssarewrite_overlap.j0] at h
  | k + 1 => by
    have ih0 := ssarewrite_overlap.mono_l k
    · intro y0 y1 y2 y3
      unfold ssarewrite_overlap.j0
      repeat' first
      | (with_reducible exact ih0 _ _ _ _)
      | (with_reducible exact LeO.refl _)
      | (with_reducible exact LeO.none _)
      | (with_reducible refine LeO.ite ?_ ?_)
      | (with_reducible refine LeO.bind ?_ (fun _ => ?_))
      | exact ih0 _ _ _ _
      | exact LeO.none _
      | refine LeO.ite ?_ ?_
      | refine LeO.bind ?_ (fun _ => ?_)
theorem ssarewrite_overlap.mono : ∀ a0 a1 a2 a3 k, LeO (ssarewrite_overlap.f k a0 a1 a2 a3) (ssarewrite_overlap.f (k + 1) a0 a1 a2 a3) := by
  intro a0 a1 a2 a3 k
  have ih0 := ssarewrite_overlap.mono_l k
  unfold ssarewrite_overlap.f
  repeat' first
      | (with_reducible exact ih0 _ _ _ _)
      | (with_reducible exact LeO.refl _)
      | (with_reducible exact LeO.none _)
      | (with_reducible refine LeO.ite ?_ ?_)
      | (with_reducible refine LeO.bind ?_ (fun _ => ?_))
      | exact ih0 _ _ _ _
      | exact LeO.none _
      | refine LeO.ite ?_ ?_
      | refine LeO.bind ?_ (fun _ => ?_)
set_option maxHeartbeats 8000000 in
set_option maxRecDepth 100000 in
theorem ssarewrite_overlap.calls (k : Nat) (a0 : Int) (a1 : Int) (a2 : Int) (a3 : Int) (r : Bool) (w : World) (h : ssarewrite_overlap.f k a0 a1 a2 a3 = some r) :
    Calls Try.prog 65 #[.int .i64 a0, .int .i64 a1, .int .i64 a2, .int .i64 a3] w fun e w' => e = .returned (.bool r) ∧ Drawn0 w w' := by
  have H : (if a0 ≥ a2 then (ssarewrite_overlap.j0 k a0 a1 a2 (decide ((wrap64 (a2 + a3)) > a0))) else (ssarewrite_overlap.j0 k a0 a1 a2 false)) = some r := h
  clear h
  have HC5 := Aside0.mk H
  clear H
  go_enter Try.func65, Try.ntmps65
  go_upto_region 1 with (fail)
  go_cut [18] (fun v18 wc => ∃ (kq : Nat) (x18_4 : Bool), v18 = .bool x18_4 ∧ Aside0 (ssarewrite_overlap.j0 kq a0 a1 a2 x18_4 = some r) ∧ Aside0 (kq ≤ k) ∧ Drawn0 w wc)
  case first =>
    have H := HC5.out
    clear HC5
    by_cases c6 : a0 ≥ a2
    · rw [if_pos c6] at H
      have c6b0 : decide (a2 ≤ a0) = true := decide_eq_true c6
      clear c6
      (first | rw [c6b0] | (simp only [i64_w, i32_w]; rw [c6b0]) | skip)
      have H' := Aside0.mk H
      clear H
      go_wp2
      go_meet
      case rel => exact ⟨_, (decide ((wrap64 (a2 + a3)) > a0)), (by first | rfl | (simp; done) | (simp [*]; done)), H', ⟨by first | omega | exact Nat.le_refl _⟩, by repeat (first | exact Drawn0.refl _ | apply Drawn0.step)⟩
    · rw [if_neg c6] at H
      have c6b0 : decide (a2 ≤ a0) = false := decide_eq_false c6
      clear c6
      (first | rw [c6b0] | (simp only [i64_w, i32_w]; rw [c6b0]) | skip)
      have H' := Aside0.mk H
      clear H
      go_wp2
      go_meet
      case rel => exact ⟨_, (false), (by first | rfl | (simp; done) | (simp [*]; done)), H', ⟨by first | omega | exact Nat.le_refl _⟩, by repeat (first | exact Drawn0.refl _ | apply Drawn0.step)⟩
  case rest =>
    clear HC5
    try clear p2
    try clear c6
    try clear c6b0
    try clear p6
    obtain ⟨kq, x18_4, rfl, HA, HJ4, ⟨mc4, rfl⟩⟩ := hcut
    cases kq with
    | zero => exact absurd HA.out (by simp [ssarewrite_overlap.j0])
    | succ kj4 =>
      have H := HA.out
      clear HA
      simp only [ssarewrite_overlap.j0] at H
      by_cases c7 : x18_4 = true
      · subst c7
        have H1 : (some true) = some r := by rw [if_pos rfl] at H; exact H
        clear H
        have H := H1
        clear H1
        obtain rfl := Option.some.inj H
        go_wp2
        go_ret
        exact ⟨by first | rfl | (simp; done) | (simp [*]; done), by repeat (first | exact Drawn0.refl _ | apply Drawn0.step)⟩
      · replace c7 := Bool.eq_false_iff.mpr c7
        subst c7
        have H1 : (if a2 ≥ a0 then (if (wrap64 (a0 + a1)) > a2 then (some true) else (some false)) else (some false)) = some r := by rw [if_neg (show ¬ (false = true) by decide)] at H; exact H
        clear H
        have H := H1
        clear H1
        by_cases c8 : a2 ≥ a0
        · rw [if_pos c8] at H
          have c8b0 : decide (a0 ≤ a2) = true := decide_eq_true c8
          clear c8
          by_cases c9 : (wrap64 (a0 + a1)) > a2
          · rw [if_pos c9] at H
            have c9b0 : decide (a2 < (wrap64 (a0 + a1))) = true := decide_eq_true c9
            clear c9
            obtain rfl := Option.some.inj H
            go_wp2
            go_ret
            exact ⟨by first | rfl | (simp; done) | (simp [*]; done), by repeat (first | exact Drawn0.refl _ | apply Drawn0.step)⟩
          · rw [if_neg c9] at H
            have c9b0 : decide (a2 < (wrap64 (a0 + a1))) = false := decide_eq_false c9
            clear c9
            obtain rfl := Option.some.inj H
            go_wp2
            go_ret
            exact ⟨by first | rfl | (simp; done) | (simp [*]; done), by repeat (first | exact Drawn0.refl _ | apply Drawn0.step)⟩
        · rw [if_neg c8] at H
          have c8b0 : decide (a0 ≤ a2) = false := decide_eq_false c8
          clear c8
          obtain rfl := Option.some.inj H
          go_wp2
          go_ret
          exact ⟨by first | rfl | (simp; done) | (simp [*]; done), by repeat (first | exact Drawn0.refl _ | apply Drawn0.step)⟩

/-! ### ssarewrite_ZZOverlap: function 49 -/
def ssarewrite_ZZOverlap.f (k : Nat) (a0 : Int) (a1 : Int) (a2 : Int) (a3 : Int) : Option (Bool) := (ssarewrite_overlap.f k a0 a1 a2 a3).bind fun t101 => (some t101)
theorem ssarewrite_ZZOverlap.mono : ∀ a0 a1 a2 a3 k, LeO (ssarewrite_ZZOverlap.f k a0 a1 a2 a3) (ssarewrite_ZZOverlap.f (k + 1) a0 a1 a2 a3) := by
  intro a0 a1 a2 a3 k
  unfold ssarewrite_ZZOverlap.f
  repeat' first
      | (with_reducible exact ssarewrite_overlap.mono _ _ _ _ _)
      | (with_reducible exact LeO.refl _)
      | (with_reducible exact LeO.none _)
      | (with_reducible refine LeO.ite ?_ ?_)
      | (with_reducible refine LeO.bind ?_ (fun _ => ?_))
      | exact ssarewrite_overlap.mono _ _ _ _ _
      | exact LeO.none _
      | refine LeO.ite ?_ ?_
      | refine LeO.bind ?_ (fun _ => ?_)
set_option maxHeartbeats 8000000 in
set_option maxRecDepth 100000 in
theorem ssarewrite_ZZOverlap.calls (k : Nat) (a0 : Int) (a1 : Int) (a2 : Int) (a3 : Int) (r : Bool) (w : World) (h : ssarewrite_ZZOverlap.f k a0 a1 a2 a3 = some r) :
    Calls Try.prog 49 #[.int .i64 a0, .int .i64 a1, .int .i64 a2, .int .i64 a3] w fun e w' => e = .returned (.bool r) ∧ Drawn0 w w' := by
  have H : ((ssarewrite_overlap.f k a0 a1 a2 a3).bind fun t101 => (some t101)) = some r := h
  clear h
  replace H := Option.bind_eq_some_iff.mp H
  obtain ⟨t101, A50, H⟩ := H
  replace H : (some t101) = some r := H
  have A5 := Aside0.mk A50
  clear A50
  obtain rfl := Option.some.inj H
  go_enter Try.func49, Try.ntmps49
  go_wp2_with (first | ((with_reducible refine gate_callee (f := 65) rfl ?_); refine goesL_ (some 13) rfl rfl Try.func65 (by kernel_rfl) rfl #[.int .i64 a0, .int .i64 a1, .int .i64 a2, .int .i64 a3] rfl (by (try simp only [List.map_toArray, List.map_cons, List.map_nil]); first | done | rfl | (simp only [List.length_drop, List.length_take]; rfl)) ?_; (with_reducible refine (ssarewrite_overlap.calls k a0 a1 a2 a3 t101 _ A5.out).mono ?_); rintro e w' ⟨rfl, ⟨nd, rfl⟩⟩; refine ⟨_, rfl, ?_⟩))
  go_ret
  exact ⟨by first | rfl | (simp; done) | (simp [*]; done), by repeat (first | exact Drawn0.refl _ | apply Drawn0.step)⟩

/-! ### impl_RangesOverlap: function 26 -/
def impl_RangesOverlap.f (k : Nat) (a0 : Int) (a1 : Int) (a2 : Int) (a3 : Int) : Option (Bool) := (ssarewrite_ZZOverlap.f k a0 a1 a2 a3).bind fun t102 => (some t102)
theorem impl_RangesOverlap.mono : ∀ a0 a1 a2 a3 k, LeO (impl_RangesOverlap.f k a0 a1 a2 a3) (impl_RangesOverlap.f (k + 1) a0 a1 a2 a3) := by
  intro a0 a1 a2 a3 k
  unfold impl_RangesOverlap.f
  repeat' first
      | (with_reducible exact ssarewrite_ZZOverlap.mono _ _ _ _ _)
      | (with_reducible exact LeO.refl _)
      | (with_reducible exact LeO.none _)
      | (with_reducible refine LeO.ite ?_ ?_)
      | (with_reducible refine LeO.bind ?_ (fun _ => ?_))
      | exact ssarewrite_ZZOverlap.mono _ _ _ _ _
      | exact LeO.none _
      | refine LeO.ite ?_ ?_
      | refine LeO.bind ?_ (fun _ => ?_)
set_option maxHeartbeats 8000000 in
set_option maxRecDepth 100000 in
theorem impl_RangesOverlap.calls (k : Nat) (a0 : Int) (a1 : Int) (a2 : Int) (a3 : Int) (r : Bool) (w : World) (h : impl_RangesOverlap.f k a0 a1 a2 a3 = some r) :
    Calls Try.prog 26 #[.int .i64 a0, .int .i64 a1, .int .i64 a2, .int .i64 a3] w fun e w' => e = .returned (.bool r) ∧ Drawn0 w w' := by
  have H : ((ssarewrite_ZZOverlap.f k a0 a1 a2 a3).bind fun t102 => (some t102)) = some r := h
  clear h
  replace H := Option.bind_eq_some_iff.mp H
  obtain ⟨t102, A50, H⟩ := H
  replace H : (some t102) = some r := H
  have A5 := Aside0.mk A50
  clear A50
  obtain rfl := Option.some.inj H
  go_enter Try.func26, Try.ntmps26
  go_wp2_with (first | ((with_reducible refine gate_callee (f := 49) rfl ?_); refine goesL_ (some 13) rfl rfl Try.func49 (by kernel_rfl) rfl #[.int .i64 a0, .int .i64 a1, .int .i64 a2, .int .i64 a3] rfl (by (try simp only [List.map_toArray, List.map_cons, List.map_nil]); first | done | rfl | (simp only [List.length_drop, List.length_take]; rfl)) ?_; (with_reducible refine (ssarewrite_ZZOverlap.calls k a0 a1 a2 a3 t102 _ A5.out).mono ?_); rintro e w' ⟨rfl, ⟨nd, rfl⟩⟩; refine ⟨_, rfl, ?_⟩))
  go_ret
  exact ⟨by first | rfl | (simp; done) | (simp [*]; done), by repeat (first | exact Drawn0.refl _ | apply Drawn0.step)⟩

/-! ### laws_FnRangesOverlap: function 8 -/
def laws_FnRangesOverlap.f (k : Nat) (a0 : Int) (a1 : Int) (a2 : Int) (a3 : Int) : Option (Bool) := (laws_rwAt.f a0 1099511627776).bind fun t103 => ((laws_rwAt.f a1 1099511627776).bind fun t104 => ((laws_rwAt.f a2 1099511627776).bind fun t105 => ((laws_rwAt.f a3 1099511627776).bind fun t106 => ((impl_RangesOverlap.f k t103 (wrap64 (1 + t104)) t105 (wrap64 (1 + t106))).bind fun t107 => (if (t107 == (decide ((mx t103 t105) < (mn (wrap64 (t103 + (wrap64 (1 + t104)))) (wrap64 (t105 + (wrap64 (1 + t106)))))))) = true then ((impl_RangesOverlap.f k 1 2 2 3).bind fun t108 => (some t108)) else (some false))))))
theorem laws_FnRangesOverlap.mono : ∀ a0 a1 a2 a3 k, LeO (laws_FnRangesOverlap.f k a0 a1 a2 a3) (laws_FnRangesOverlap.f (k + 1) a0 a1 a2 a3) := by
  intro a0 a1 a2 a3 k
  unfold laws_FnRangesOverlap.f
  repeat' first
      | (with_reducible exact impl_RangesOverlap.mono _ _ _ _ _)
      | (with_reducible exact LeO.refl _)
      | (with_reducible exact LeO.none _)
      | (with_reducible refine LeO.ite ?_ ?_)
      | (with_reducible refine LeO.bind ?_ (fun _ => ?_))
      | exact impl_RangesOverlap.mono _ _ _ _ _
      | exact LeO.none _
      | refine LeO.ite ?_ ?_
      | refine LeO.bind ?_ (fun _ => ?_)
set_option maxHeartbeats 8000000 in
set_option maxRecDepth 100000 in
theorem laws_FnRangesOverlap.calls (k : Nat) (a0 : Int) (a1 : Int) (a2 : Int) (a3 : Int) (r : Bool) (w : World) (h : laws_FnRangesOverlap.f k a0 a1 a2 a3 = some r) :
    Calls Try.prog 8 #[.int .i64 a0, .int .i64 a1, .int .i64 a2, .int .i64 a3] w fun e w' => e = .returned (.bool r) ∧ Below w.heap.size w w' := by
  have HB := Aside0.mk (Below.refl w.heap.size w)
  have H : ((laws_rwAt.f a0 1099511627776).bind fun t103 => ((laws_rwAt.f a1 1099511627776).bind fun t104 => ((laws_rwAt.f a2 1099511627776).bind fun t105 => ((laws_rwAt.f a3 1099511627776).bind fun t106 => ((impl_RangesOverlap.f k t103 (wrap64 (1 + t104)) t105 (wrap64 (1 + t106))).bind fun t107 => (if (t107 == (decide ((mx t103 t105) < (mn (wrap64 (t103 + (wrap64 (1 + t104)))) (wrap64 (t105 + (wrap64 (1 + t106)))))))) = true then ((impl_RangesOverlap.f k 1 2 2 3).bind fun t108 => (some t108)) else (some false))))))) = some r := h
  clear h
  replace H := Option.bind_eq_some_iff.mp H
  obtain ⟨t103, A50, H⟩ := H
  replace H : ((laws_rwAt.f a1 1099511627776).bind fun t104 => ((laws_rwAt.f a2 1099511627776).bind fun t105 => ((laws_rwAt.f a3 1099511627776).bind fun t106 => ((impl_RangesOverlap.f k t103 (wrap64 (1 + t104)) t105 (wrap64 (1 + t106))).bind fun t107 => (if (t107 == (decide ((mx t103 t105) < (mn (wrap64 (t103 + (wrap64 (1 + t104)))) (wrap64 (t105 + (wrap64 (1 + t106)))))))) = true then ((impl_RangesOverlap.f k 1 2 2 3).bind fun t108 => (some t108)) else (some false)))))) = some r := H
  have A5 := Aside0.mk A50
  clear A50
  replace H := Option.bind_eq_some_iff.mp H
  obtain ⟨t104, A60, H⟩ := H
  replace H : ((laws_rwAt.f a2 1099511627776).bind fun t105 => ((laws_rwAt.f a3 1099511627776).bind fun t106 => ((impl_RangesOverlap.f k t103 (wrap64 (1 + t104)) t105 (wrap64 (1 + t106))).bind fun t107 => (if (t107 == (decide ((mx t103 t105) < (mn (wrap64 (t103 + (wrap64 (1 + t104)))) (wrap64 (t105 + (wrap64 (1 + t106)))))))) = true then ((impl_RangesOverlap.f k 1 2 2 3).bind fun t108 => (some t108)) else (some false))))) = some r := H
  have A6 := Aside0.mk A60
  clear A60
  replace H := Option.bind_eq_some_iff.mp H
  obtain ⟨t105, A70, H⟩ := H
  replace H : ((laws_rwAt.f a3 1099511627776).bind fun t106 => ((impl_RangesOverlap.f k t103 (wrap64 (1 + t104)) t105 (wrap64 (1 + t106))).bind fun t107 => (if (t107 == (decide ((mx t103 t105) < (mn (wrap64 (t103 + (wrap64 (1 + t104)))) (wrap64 (t105 + (wrap64 (1 + t106)))))))) = true then ((impl_RangesOverlap.f k 1 2 2 3).bind fun t108 => (some t108)) else (some false)))) = some r := H
  have A7 := Aside0.mk A70
  clear A70
  replace H := Option.bind_eq_some_iff.mp H
  obtain ⟨t106, A80, H⟩ := H
  replace H : ((impl_RangesOverlap.f k t103 (wrap64 (1 + t104)) t105 (wrap64 (1 + t106))).bind fun t107 => (if (t107 == (decide ((mx t103 t105) < (mn (wrap64 (t103 + (wrap64 (1 + t104)))) (wrap64 (t105 + (wrap64 (1 + t106)))))))) = true then ((impl_RangesOverlap.f k 1 2 2 3).bind fun t108 => (some t108)) else (some false))) = some r := H
  have A8 := Aside0.mk A80
  clear A80
  replace H := Option.bind_eq_some_iff.mp H
  obtain ⟨t107, A90, H⟩ := H
  replace H : (if (t107 == (decide ((mx t103 t105) < (mn (wrap64 (t103 + (wrap64 (1 + t104)))) (wrap64 (t105 + (wrap64 (1 + t106)))))))) = true then ((impl_RangesOverlap.f k 1 2 2 3).bind fun t108 => (some t108)) else (some false)) = some r := H
  have A9 := Aside0.mk A90
  clear A90
  obtain ⟨ji10, hji10⟩ : ∃ j_ : Int, (mx t103 t105) = j_ := ⟨_, rfl⟩
  replace H : (if (t107 == (decide ((ji10) < (mn (wrap64 (t103 + (wrap64 (1 + t104)))) (wrap64 (t105 + (wrap64 (1 + t106)))))))) = true then ((impl_RangesOverlap.f k 1 2 2 3).bind fun t108 => (some t108)) else (some false)) = some r := by first | (rw [hji10] at H; exact H) | (simp only [hji10] at H ⊢; exact H)
  (try rw [hji10] at A5)
  (try rw [hji10] at A6)
  (try rw [hji10] at A7)
  (try rw [hji10] at A8)
  (try rw [hji10] at A9)
  have hji10_ : (if t103 < t105 then t105 else t103) = ji10 := hji10
  obtain ⟨ji11, hji11⟩ : ∃ j_ : Int, (mn (wrap64 (t103 + (wrap64 (1 + t104)))) (wrap64 (t105 + (wrap64 (1 + t106))))) = j_ := ⟨_, rfl⟩
  replace H : (if (t107 == (decide ((ji10) < (ji11)))) = true then ((impl_RangesOverlap.f k 1 2 2 3).bind fun t108 => (some t108)) else (some false)) = some r := by first | (rw [hji11] at H; exact H) | (simp only [hji11] at H ⊢; exact H)
  (try rw [hji11] at A5)
  (try rw [hji11] at A6)
  (try rw [hji11] at A7)
  (try rw [hji11] at A8)
  (try rw [hji11] at A9)
  have hji11_ : (if (wrap64 (t105 + (wrap64 (1 + t106)))) < (wrap64 (t103 + (wrap64 (1 + t104)))) then (wrap64 (t105 + (wrap64 (1 + t106)))) else (wrap64 (t103 + (wrap64 (1 + t104))))) = ji11 := hji11
  by_cases c12 : (t107 == (decide ((ji10) < (ji11)))) = true
  · rw [if_pos c12] at H
    have c12b0 : (t107 == (decide ((ji10) < (ji11)))) = true := c12
    (try (have c12b1 : decide (t107 = (decide ((ji10) < (ji11)))) = true := by simpa using c12))
    (try (have c12b2 : (t107 == (decide ((ji10) < (ji11)))) = true := by simpa using c12))
    clear c12
    replace H := Option.bind_eq_some_iff.mp H
    obtain ⟨t108, A130, H⟩ := H
    replace H : (some t108) = some r := H
    have A13 := Aside0.mk A130
    clear A130
    obtain rfl := Option.some.inj H
    go_enter Try.func8, Try.ntmps8
    go_wp2_with (first | ((with_reducible refine gate_callee (f := 23) rfl ?_); refine goesL_ (some 14) rfl rfl Try.func23 (by kernel_rfl) rfl #[.int .i64 a0, .int .i64 1099511627776] rfl (by (try simp only [List.map_toArray, List.map_cons, List.map_nil]); first | done | rfl | (simp only [List.length_drop, List.length_take]; rfl)) ?_; (with_reducible refine (laws_rwAt.calls a0 1099511627776 t103 _ A5.out).mono ?_); rintro e w' ⟨rfl, ⟨nd, rfl⟩⟩; refine ⟨_, rfl, ?_⟩) | ((with_reducible refine gate_callee (f := 23) rfl ?_); refine goesL_ (some 16) rfl rfl Try.func23 (by kernel_rfl) rfl #[.int .i64 a1, .int .i64 1099511627776] rfl (by (try simp only [List.map_toArray, List.map_cons, List.map_nil]); first | done | rfl | (simp only [List.length_drop, List.length_take]; rfl)) ?_; (with_reducible refine (laws_rwAt.calls a1 1099511627776 t104 _ A6.out).mono ?_); rintro e w' ⟨rfl, ⟨nd, rfl⟩⟩; refine ⟨_, rfl, ?_⟩) | ((with_reducible refine gate_callee (f := 23) rfl ?_); refine goesL_ (some 19) rfl rfl Try.func23 (by kernel_rfl) rfl #[.int .i64 a2, .int .i64 1099511627776] rfl (by (try simp only [List.map_toArray, List.map_cons, List.map_nil]); first | done | rfl | (simp only [List.length_drop, List.length_take]; rfl)) ?_; (with_reducible refine (laws_rwAt.calls a2 1099511627776 t105 _ A7.out).mono ?_); rintro e w' ⟨rfl, ⟨nd, rfl⟩⟩; refine ⟨_, rfl, ?_⟩) | ((with_reducible refine gate_callee (f := 23) rfl ?_); refine goesL_ (some 21) rfl rfl Try.func23 (by kernel_rfl) rfl #[.int .i64 a3, .int .i64 1099511627776] rfl (by (try simp only [List.map_toArray, List.map_cons, List.map_nil]); first | done | rfl | (simp only [List.length_drop, List.length_take]; rfl)) ?_; (with_reducible refine (laws_rwAt.calls a3 1099511627776 t106 _ A8.out).mono ?_); rintro e w' ⟨rfl, ⟨nd, rfl⟩⟩; refine ⟨_, rfl, ?_⟩) | ((with_reducible refine gate_callee (f := 26) rfl ?_); refine goesL_ (some 27) rfl rfl Try.func26 (by kernel_rfl) rfl #[.int .i64 t103, .int .i64 (wrap64 (1 + t104)), .int .i64 t105, .int .i64 (wrap64 (1 + t106))] rfl (by (try simp only [List.map_toArray, List.map_cons, List.map_nil]); first | done | rfl | (simp only [List.length_drop, List.length_take]; rfl)) ?_; (with_reducible refine (impl_RangesOverlap.calls k t103 (wrap64 (1 + t104)) t105 (wrap64 (1 + t106)) t107 _ A9.out).mono ?_); rintro e w' ⟨rfl, ⟨nd, rfl⟩⟩; refine ⟨_, rfl, ?_⟩) | (go_at_call 26; (with_reducible refine (impl_RangesOverlap.calls k 1 2 2 3 t108 _ A13.out).mono ?_); rintro e w' ⟨rfl, ⟨nd, rfl⟩⟩))
    go_ret
    exact ⟨by first | rfl | (simp [errW_none, errW_some] <;> rfl) | (simp only [← hji10, ← hji11]; first | rfl | (simp [errW_none, errW_some] <;> rfl)) | (simp [*, errW_none, errW_some] <;> rfl), by repeat (first | (with_reducible first | exact HB.out | apply below_alloc | apply pw_below_drewN | apply below_drew1) | exact HB.out)⟩
  · rw [if_neg c12] at H
    have c12b0 : (t107 == (decide ((ji10) < (ji11)))) = false := by simpa using c12
    (try (have c12b1 : decide (t107 = (decide ((ji10) < (ji11)))) = false := by simpa using c12))
    (try (have c12b2 : (t107 == (decide ((ji10) < (ji11)))) = false := by simpa using c12))
    (try (have c12b3 : ¬ (t107 = (decide ((ji10) < (ji11)))) := by simpa using c12))
    clear c12
    obtain rfl := Option.some.inj H
    go_enter Try.func8, Try.ntmps8
    go_wp2_with (first | ((with_reducible refine gate_callee (f := 23) rfl ?_); refine goesL_ (some 14) rfl rfl Try.func23 (by kernel_rfl) rfl #[.int .i64 a0, .int .i64 1099511627776] rfl (by (try simp only [List.map_toArray, List.map_cons, List.map_nil]); first | done | rfl | (simp only [List.length_drop, List.length_take]; rfl)) ?_; (with_reducible refine (laws_rwAt.calls a0 1099511627776 t103 _ A5.out).mono ?_); rintro e w' ⟨rfl, ⟨nd, rfl⟩⟩; refine ⟨_, rfl, ?_⟩) | ((with_reducible refine gate_callee (f := 23) rfl ?_); refine goesL_ (some 16) rfl rfl Try.func23 (by kernel_rfl) rfl #[.int .i64 a1, .int .i64 1099511627776] rfl (by (try simp only [List.map_toArray, List.map_cons, List.map_nil]); first | done | rfl | (simp only [List.length_drop, List.length_take]; rfl)) ?_; (with_reducible refine (laws_rwAt.calls a1 1099511627776 t104 _ A6.out).mono ?_); rintro e w' ⟨rfl, ⟨nd, rfl⟩⟩; refine ⟨_, rfl, ?_⟩) | ((with_reducible refine gate_callee (f := 23) rfl ?_); refine goesL_ (some 19) rfl rfl Try.func23 (by kernel_rfl) rfl #[.int .i64 a2, .int .i64 1099511627776] rfl (by (try simp only [List.map_toArray, List.map_cons, List.map_nil]); first | done | rfl | (simp only [List.length_drop, List.length_take]; rfl)) ?_; (with_reducible refine (laws_rwAt.calls a2 1099511627776 t105 _ A7.out).mono ?_); rintro e w' ⟨rfl, ⟨nd, rfl⟩⟩; refine ⟨_, rfl, ?_⟩) | ((with_reducible refine gate_callee (f := 23) rfl ?_); refine goesL_ (some 21) rfl rfl Try.func23 (by kernel_rfl) rfl #[.int .i64 a3, .int .i64 1099511627776] rfl (by (try simp only [List.map_toArray, List.map_cons, List.map_nil]); first | done | rfl | (simp only [List.length_drop, List.length_take]; rfl)) ?_; (with_reducible refine (laws_rwAt.calls a3 1099511627776 t106 _ A8.out).mono ?_); rintro e w' ⟨rfl, ⟨nd, rfl⟩⟩; refine ⟨_, rfl, ?_⟩) | ((with_reducible refine gate_callee (f := 26) rfl ?_); refine goesL_ (some 27) rfl rfl Try.func26 (by kernel_rfl) rfl #[.int .i64 t103, .int .i64 (wrap64 (1 + t104)), .int .i64 t105, .int .i64 (wrap64 (1 + t106))] rfl (by (try simp only [List.map_toArray, List.map_cons, List.map_nil]); first | done | rfl | (simp only [List.length_drop, List.length_take]; rfl)) ?_; (with_reducible refine (impl_RangesOverlap.calls k t103 (wrap64 (1 + t104)) t105 (wrap64 (1 + t106)) t107 _ A9.out).mono ?_); rintro e w' ⟨rfl, ⟨nd, rfl⟩⟩; refine ⟨_, rfl, ?_⟩))
    go_ret
    exact ⟨by first | rfl | (simp [errW_none, errW_some] <;> rfl) | (simp only [← hji10, ← hji11]; first | rfl | (simp [errW_none, errW_some] <;> rfl)) | (simp [*, errW_none, errW_some] <;> rfl), by repeat (first | (with_reducible first | exact HB.out | apply below_alloc | apply pw_below_drewN | apply below_drew1) | exact HB.out)⟩

/-- THE ONE PURE STATEMENT of laws_FnRangesOverlap: yours. -/
def laws_FnRangesOverlap.Pure : Prop := ∀ (a0 : Int) (a1 : Int) (a2 : Int) (a3 : Int), (Lit.int .i64 a0).wf = true → (Lit.int .i64 a1).wf = true → (Lit.int .i64 a2).wf = true → (Lit.int .i64 a3).wf = true → ∃ k, laws_FnRangesOverlap.f k a0 a1 a2 a3 = some true
theorem laws_FnRangesOverlap.walk (P : laws_FnRangesOverlap.Pure) (a0 : Int) (a1 : Int) (a2 : Int) (a3 : Int) (w : World) (w0 : (Lit.int .i64 a0).wf = true) (w1 : (Lit.int .i64 a1).wf = true) (w2 : (Lit.int .i64 a2).wf = true) (w3 : (Lit.int .i64 a3).wf = true) :
    Calls Try.prog 8 #[.int .i64 a0, .int .i64 a1, .int .i64 a2, .int .i64 a3] w fun e w' => e = .returned (.bool true) ∧ Below w.heap.size w w' := by
  obtain ⟨k, h⟩ := P a0 a1 a2 a3 w0 w1 w2 w3
  refine (laws_FnRangesOverlap.calls k a0 a1 a2 a3 true w h).mono ?_
  rintro e w' ⟨rfl, hd⟩
  exact ⟨rfl, hd⟩

end Go.Proofs.Ytffpghicoalmhaa.PFnRangesOverlap
