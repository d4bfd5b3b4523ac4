-- PRINTED BY print.sh 35421559b90ae4d0a3588c463048766b98c2df88dd9212a6774a882060cdf62d: not written by this session
import Derived.Test.YtffpghicoalmhaaPFnAddconIsx0
namespace Go.Proofs.Ytffpghicoalmhaa.PFnAddconIs
open Go.RowKit Go.Proofs.YtffpghicoalmhaaW.PrintWords Go.Proofs.YtffpghicoalmhaaW.PrintLast Go.Proofs.YtffpghicoalmhaaW.PrintMore
attribute [local go_sem] max2_int min2_int max_two min_two max_three min_three max_four min_four   -- for this text's walks alone
set_option linter.unusedVariables false
set_option linter.unusedSimpArgs false

/-! ### ssarewrite_isARM64addcon: function 66 -/
def ssarewrite_isARM64addcon.f (a0 : Int) : Option (Bool) := if a0 < 0 then (some false) else (if (Go.bits .and .i64 a0 4095) = 0 then (some (decide ((a0 / 4096) ≤ 4095))) else (some (decide (a0 ≤ 4095))))
set_option maxHeartbeats 8000000 in
set_option maxRecDepth 100000 in
theorem ssarewrite_isARM64addcon.calls (a0 : Int) (r : Bool) (w : World) (h : ssarewrite_isARM64addcon.f a0 = some r) :
    Calls Try.prog 66 #[.int .i64 a0] w fun e w' => e = .returned (.bool r) ∧ Drawn0 w w' := by
  have H : (if a0 < 0 then (some false) else (if (Go.bits .and .i64 a0 4095) = 0 then (some (decide ((a0 / 4096) ≤ 4095))) else (some (decide (a0 ≤ 4095))))) = some r := h
  clear h
  by_cases c2 : a0 < 0
  · rw [if_pos c2] at H
    have c2b0 : decide (a0 < 0) = true := decide_eq_true c2
    clear c2
    obtain rfl := Option.some.inj H
    go_enter Try.func66, Try.ntmps66
    go_wp2
    go_ret
    exact ⟨by first | rfl | (simp; done) | (simp [*]; done), by repeat (first | exact Drawn0.refl _ | apply Drawn0.step)⟩
  · rw [if_neg c2] at H
    have c2b0 : decide (a0 < 0) = false := decide_eq_false c2
    clear c2
    by_cases c3 : (Go.bits .and .i64 a0 4095) = 0
    · rw [if_pos c3] at H
      have c3b0 : ((Go.bits .and .i64 a0 4095) == 0) = true := beq_iff_eq.mpr c3
      have c3b1 : ((Go.bits .and .i64 a0 4095) != 0) = false := bne_eq_false_iff_eq.mpr c3
      clear c3
      obtain rfl := Option.some.inj H
      go_enter Try.func66, Try.ntmps66
      go_wp2
      go_ret
      exact ⟨by first | rfl | (simp; done) | (simp [*]; done), by repeat (first | exact Drawn0.refl _ | apply Drawn0.step)⟩
    · rw [if_neg c3] at H
      have c3b0 : ((Go.bits .and .i64 a0 4095) == 0) = false := beq_eq_false_iff_ne.mpr c3
      have c3b1 : ((Go.bits .and .i64 a0 4095) != 0) = true := bne_iff_ne.mpr c3
      obtain rfl := Option.some.inj H
      go_enter Try.func66, Try.ntmps66
      go_wp2
      go_ret
      exact ⟨by first | rfl | (simp; done) | (simp [*]; done), by repeat (first | exact Drawn0.refl _ | apply Drawn0.step)⟩

/-! ### ssarewrite_ZZIsARM64addcon: function 50 -/
def ssarewrite_ZZIsARM64addcon.f (a0 : Int) : Option (Bool) := (ssarewrite_isARM64addcon.f a0).bind fun t101 => (some t101)
set_option maxHeartbeats 8000000 in
set_option maxRecDepth 100000 in
theorem ssarewrite_ZZIsARM64addcon.calls (a0 : Int) (r : Bool) (w : World) (h : ssarewrite_ZZIsARM64addcon.f a0 = some r) :
    Calls Try.prog 50 #[.int .i64 a0] w fun e w' => e = .returned (.bool r) ∧ Drawn0 w w' := by
  have H : ((ssarewrite_isARM64addcon.f a0).bind fun t101 => (some t101)) = some r := h
  clear h
  replace H := Option.bind_eq_some_iff.mp H
  obtain ⟨t101, A20, H⟩ := H
  replace H : (some t101) = some r := H
  have A2 := Aside0.mk A20
  clear A20
  obtain rfl := Option.some.inj H
  go_enter Try.func50, Try.ntmps50
  go_wp2_with (first | ((with_reducible refine gate_callee (f := 66) rfl ?_); refine goesL_ (some 4) rfl rfl Try.func66 (by kernel_rfl) rfl #[.int .i64 a0] rfl (by (try simp only [List.map_toArray, List.map_cons, List.map_nil]); first | done | rfl | (simp only [List.length_drop, List.length_take]; rfl)) ?_; (with_reducible refine (ssarewrite_isARM64addcon.calls a0 t101 _ A2.out).mono ?_); rintro e w' ⟨rfl, ⟨nd, rfl⟩⟩; refine ⟨_, rfl, ?_⟩))
  go_ret
  exact ⟨by first | rfl | (simp; done) | (simp [*]; done), by repeat (first | exact Drawn0.refl _ | apply Drawn0.step)⟩

/-! ### impl_IsAddcon: function 27 -/
def impl_IsAddcon.f (a0 : Int) : Option (Bool) := (ssarewrite_ZZIsARM64addcon.f a0).bind fun t102 => (some t102)
set_option maxHeartbeats 8000000 in
set_option maxRecDepth 100000 in
theorem impl_IsAddcon.calls (a0 : Int) (r : Bool) (w : World) (h : impl_IsAddcon.f a0 = some r) :
    Calls Try.prog 27 #[.int .i64 a0] w fun e w' => e = .returned (.bool r) ∧ Drawn0 w w' := by
  have H : ((ssarewrite_ZZIsARM64addcon.f a0).bind fun t102 => (some t102)) = some r := h
  clear h
  replace H := Option.bind_eq_some_iff.mp H
  obtain ⟨t102, A20, H⟩ := H
  replace H : (some t102) = some r := H
  have A2 := Aside0.mk A20
  clear A20
  obtain rfl := Option.some.inj H
  go_enter Try.func27, Try.ntmps27
  go_wp2_with (first | ((with_reducible refine gate_callee (f := 50) rfl ?_); refine goesL_ (some 4) rfl rfl Try.func50 (by kernel_rfl) rfl #[.int .i64 a0] rfl (by (try simp only [List.map_toArray, List.map_cons, List.map_nil]); first | done | rfl | (simp only [List.length_drop, List.length_take]; rfl)) ?_; (with_reducible refine (ssarewrite_ZZIsARM64addcon.calls a0 t102 _ A2.out).mono ?_); rintro e w' ⟨rfl, ⟨nd, rfl⟩⟩; refine ⟨_, rfl, ?_⟩))
  go_ret
  exact ⟨by first | rfl | (simp; done) | (simp [*]; done), by repeat (first | exact Drawn0.refl _ | apply Drawn0.step)⟩

/-! ### spec_FitsU: function 51 -/
def spec_FitsU.f (a0 : Int) (a1 : Int) : Option (Bool) := if 0 ≤ a0 then (if 0 ≤ a1 then (some (decide (a0 < (shl .i64 1 a1)))) else (none)) else (some false)
set_option maxHeartbeats 8000000 in
set_option maxRecDepth 100000 in
theorem spec_FitsU.calls (a0 : Int) (a1 : Int) (r : Bool) (w : World) (h : spec_FitsU.f a0 a1 = some r) :
    Calls Try.prog 51 #[.int .i64 a0, .int .u64 a1] w fun e w' => e = .returned (.bool r) ∧ Drawn0 w w' := by
  have H : (if 0 ≤ a0 then (if 0 ≤ a1 then (some (decide (a0 < (shl .i64 1 a1)))) else (none)) else (some false)) = some r := h
  clear h
  by_cases c3 : 0 ≤ a0
  · rw [if_pos c3] at H
    have c3b0 : decide (0 ≤ a0) = true := decide_eq_true c3
    clear c3
    by_cases c4 : 0 ≤ a1
    · rw [if_pos c4] at H
      have c4b0 := eq_true c4
      have c4b1 : decide (0 ≤ a1) = true := decide_eq_true c4
      clear c4
      obtain ⟨ji5, hji5⟩ : ∃ j_ : Int, (shl .i64 1 a1) = j_ := ⟨_, rfl⟩
      replace H : (some (decide (a0 < (ji5)))) = some r := by first | (rw [hji5] at H; exact H) | (simp only [hji5] at H ⊢; exact H)
      have hji5_ : (IntKind.i64.wrap (1 * 2 ^ min a1.toNat 64)) = ji5 := hji5
      have hji5z : a1 ≤ 64 → (IntKind.i64.wrap (1 * 2 ^ a1.toNat)) = ji5 := shl_small hji5
      have hji5u : (IntKind.i64.wrap (2 ^ min a1.toNat 64)) = ji5 := by have h_ := hji5_; rw [Int.one_mul] at h_; exact h_
      have hji5v : a1 ≤ 64 → (IntKind.i64.wrap (2 ^ a1.toNat)) = ji5 := fun hle_ => by have h_ := hji5z hle_; rw [Int.one_mul] at h_; exact h_
      have hji5y : (wrap64 (1 * 2 ^ min a1.toNat 64)) = ji5 := (i64_w _).symm.trans hji5_
      have hji5x : a1 ≤ 64 → (wrap64 (1 * 2 ^ a1.toNat)) = ji5 := fun h_ => (i64_w _).symm.trans (hji5z h_)
      obtain rfl := Option.some.inj H
      go_enter Try.func51, Try.ntmps51
      go_wp2
      go_ret
      exact ⟨by first | rfl | (simp; done) | (simp only [← hji5] <;> (first | rfl | simp)) | (simp [*]; done), by repeat (first | exact Drawn0.refl _ | apply Drawn0.step)⟩
    · rw [if_neg c4] at H
      exact absurd H (by simp)
  · rw [if_neg c3] at H
    have c3b0 : decide (0 ≤ a0) = false := decide_eq_false c3
    clear c3
    obtain rfl := Option.some.inj H
    go_enter Try.func51, Try.ntmps51
    go_wp2
    go_ret
    exact ⟨by first | rfl | (simp; done) | (simp [*]; done), by repeat (first | exact Drawn0.refl _ | apply Drawn0.step)⟩

/-! ### spec_IsAddend: function 28 -/
def spec_IsAddend.f (a0 : Int) : Option (Bool) := (spec_FitsU.f a0 12).bind fun t103 => (if t103 = true then (some true) else (if (Int.tmod a0 4096) = 0 then ((spec_FitsU.f (wrap64 (Int.tdiv a0 4096)) 12).bind fun t104 => (some t104)) else (some false)))
set_option maxHeartbeats 8000000 in
set_option maxRecDepth 100000 in
theorem spec_IsAddend.calls (a0 : Int) (r : Bool) (w : World) (h : spec_IsAddend.f a0 = some r) :
    Calls Try.prog 28 #[.int .i64 a0] w fun e w' => e = .returned (.bool r) ∧ Drawn0 w w' := by
  have H : ((spec_FitsU.f a0 12).bind fun t103 => (if t103 = true then (some true) else (if (Int.tmod a0 4096) = 0 then ((spec_FitsU.f (wrap64 (Int.tdiv a0 4096)) 12).bind fun t104 => (some t104)) else (some false)))) = some r := h
  clear h
  replace H := Option.bind_eq_some_iff.mp H
  obtain ⟨t103, A20, H⟩ := H
  replace H : (if t103 = true then (some true) else (if (Int.tmod a0 4096) = 0 then ((spec_FitsU.f (wrap64 (Int.tdiv a0 4096)) 12).bind fun t104 => (some t104)) else (some false))) = some r := H
  have A2 := Aside0.mk A20
  clear A20
  by_cases c3 : t103 = true
  · subst c3
    have H1 : (some true) = some r := by rw [if_pos rfl] at H; exact H
    clear H
    have H := H1
    clear H1
    obtain rfl := Option.some.inj H
    go_enter Try.func28, Try.ntmps28
    go_wp2_with (first | ((with_reducible refine gate_callee (f := 51) rfl ?_); refine goesL_ (some 4) rfl rfl Try.func51 (by kernel_rfl) rfl #[.int .i64 a0, .int .u64 12] rfl (by (try simp only [List.map_toArray, List.map_cons, List.map_nil]); first | done | rfl | (simp only [List.length_drop, List.length_take]; rfl)) ?_; (with_reducible refine (spec_FitsU.calls a0 12 true _ A2.out).mono ?_); rintro e w' ⟨rfl, ⟨nd, rfl⟩⟩; refine ⟨_, rfl, ?_⟩))
    go_ret
    exact ⟨by first | rfl | (simp; done) | (simp [*]; done), by repeat (first | exact Drawn0.refl _ | apply Drawn0.step)⟩
  · replace c3 := Bool.eq_false_iff.mpr c3
    subst c3
    have H1 : (if (Int.tmod a0 4096) = 0 then ((spec_FitsU.f (wrap64 (Int.tdiv a0 4096)) 12).bind fun t104 => (some t104)) else (some false)) = some r := by rw [if_neg (show ¬ (false = true) by decide)] at H; exact H
    clear H
    have H := H1
    clear H1
    by_cases c4 : (Int.tmod a0 4096) = 0
    · rw [if_pos c4] at H
      have c4b0 : ((Int.tmod a0 4096) == 0) = true := beq_iff_eq.mpr c4
      have c4b1 : ((Int.tmod a0 4096) != 0) = false := bne_eq_false_iff_eq.mpr c4
      clear c4
      replace H := Option.bind_eq_some_iff.mp H
      obtain ⟨t104, A50, H⟩ := H
      replace H : (some t104) = some r := H
      have A5 := Aside0.mk A50
      clear A50
      obtain rfl := Option.some.inj H
      go_enter Try.func28, Try.ntmps28
      go_wp2_with (first | ((with_reducible refine gate_callee (f := 51) rfl ?_); refine goesL_ (some 4) rfl rfl Try.func51 (by kernel_rfl) rfl #[.int .i64 a0, .int .u64 12] rfl (by (try simp only [List.map_toArray, List.map_cons, List.map_nil]); first | done | rfl | (simp only [List.length_drop, List.length_take]; rfl)) ?_; (with_reducible refine (spec_FitsU.calls a0 12 false _ A2.out).mono ?_); rintro e w' ⟨rfl, ⟨nd, rfl⟩⟩; refine ⟨_, rfl, ?_⟩) | (go_at_call 51; (with_reducible refine (spec_FitsU.calls (wrap64 (Int.tdiv a0 4096)) 12 t104 _ A5.out).mono ?_); rintro e w' ⟨rfl, ⟨nd, rfl⟩⟩))
      go_ret
      exact ⟨by first | rfl | (simp; done) | (simp [*]; done), by repeat (first | exact Drawn0.refl _ | apply Drawn0.step)⟩
    · rw [if_neg c4] at H
      have c4b0 : ((Int.tmod a0 4096) == 0) = false := beq_eq_false_iff_ne.mpr c4
      have c4b1 : ((Int.tmod a0 4096) != 0) = true := bne_iff_ne.mpr c4
      obtain rfl := Option.some.inj H
      go_enter Try.func28, Try.ntmps28
      go_wp2_with (first | ((with_reducible refine gate_callee (f := 51) rfl ?_); refine goesL_ (some 4) rfl rfl Try.func51 (by kernel_rfl) rfl #[.int .i64 a0, .int .u64 12] rfl (by (try simp only [List.map_toArray, List.map_cons, List.map_nil]); first | done | rfl | (simp only [List.length_drop, List.length_take]; rfl)) ?_; (with_reducible refine (spec_FitsU.calls a0 12 false _ A2.out).mono ?_); rintro e w' ⟨rfl, ⟨nd, rfl⟩⟩; refine ⟨_, rfl, ?_⟩))
      go_ret
      exact ⟨by first | rfl | (simp; done) | (simp [*]; done), by repeat (first | exact Drawn0.refl _ | apply Drawn0.step)⟩

/-! ### laws_FnAddconIs: function 9 -/
def laws_FnAddconIs.f (a0 : Int) : Option (Bool) := (impl_IsAddcon.f a0).bind fun t105 => ((spec_IsAddend.f a0).bind fun t106 => (if (t105 == t106) = true then ((impl_IsAddcon.f 5).bind fun t107 => (some t107)) else (some false)))
set_option maxHeartbeats 8000000 in
set_option maxRecDepth 100000 in
theorem laws_FnAddconIs.calls (a0 : Int) (r : Bool) (w : World) (h : laws_FnAddconIs.f a0 = some r) :
    Calls Try.prog 9 #[.int .i64 a0] w fun e w' => e = .returned (.bool r) ∧ Drawn0 w w' := by
  have H : ((impl_IsAddcon.f a0).bind fun t105 => ((spec_IsAddend.f a0).bind fun t106 => (if (t105 == t106) = true then ((impl_IsAddcon.f 5).bind fun t107 => (some t107)) else (some false)))) = some r := h
  clear h
  replace H := Option.bind_eq_some_iff.mp H
  obtain ⟨t105, A20, H⟩ := H
  replace H : ((spec_IsAddend.f a0).bind fun t106 => (if (t105 == t106) = true then ((impl_IsAddcon.f 5).bind fun t107 => (some t107)) else (some false))) = some r := H
  have A2 := Aside0.mk A20
  clear A20
  replace H := Option.bind_eq_some_iff.mp H
  obtain ⟨t106, A30, H⟩ := H
  replace H : (if (t105 == t106) = true then ((impl_IsAddcon.f 5).bind fun t107 => (some t107)) else (some false)) = some r := H
  have A3 := Aside0.mk A30
  clear A30
  by_cases c4 : (t105 == t106) = true
  · rw [if_pos c4] at H
    have c4b0 : (t105 == t106) = true := c4
    (try (have c4b1 : decide (t105 = t106) = true := by simpa using c4))
    (try (have c4b2 : (t105 == t106) = true := by simpa using c4))
    clear c4
    replace H := Option.bind_eq_some_iff.mp H
    obtain ⟨t107, A50, H⟩ := H
    replace H : (some t107) = some r := H
    have A5 := Aside0.mk A50
    clear A50
    obtain rfl := Option.some.inj H
    go_enter Try.func9, Try.ntmps9
    go_wp2_with (first | ((with_reducible refine gate_callee (f := 27) rfl ?_); refine goesL_ (some 4) rfl rfl Try.func27 (by kernel_rfl) rfl #[.int .i64 a0] rfl (by (try simp only [List.map_toArray, List.map_cons, List.map_nil]); first | done | rfl | (simp only [List.length_drop, List.length_take]; rfl)) ?_; (with_reducible refine (impl_IsAddcon.calls a0 t105 _ A2.out).mono ?_); rintro e w' ⟨rfl, ⟨nd, rfl⟩⟩; refine ⟨_, rfl, ?_⟩) | ((with_reducible refine gate_callee (f := 28) rfl ?_); refine goesL_ (some 6) rfl rfl Try.func28 (by kernel_rfl) rfl #[.int .i64 a0] rfl (by (try simp only [List.map_toArray, List.map_cons, List.map_nil]); first | done | rfl | (simp only [List.length_drop, List.length_take]; rfl)) ?_; (with_reducible refine (spec_IsAddend.calls a0 t106 _ A3.out).mono ?_); rintro e w' ⟨rfl, ⟨nd, rfl⟩⟩; refine ⟨_, rfl, ?_⟩) | (go_at_call 27; (with_reducible refine (impl_IsAddcon.calls 5 t107 _ A5.out).mono ?_); rintro e w' ⟨rfl, ⟨nd, rfl⟩⟩))
    go_ret
    exact ⟨by first | rfl | (simp; done) | (simp [*]; done), by repeat (first | exact Drawn0.refl _ | apply Drawn0.step)⟩
  · rw [if_neg c4] at H
    have c4b0 : (t105 == t106) = false := by simpa using c4
    (try (have c4b1 : decide (t105 = t106) = false := by simpa using c4))
    (try (have c4b2 : (t105 == t106) = false := by simpa using c4))
    (try (have c4b3 : ¬ (t105 = t106) := by simpa using c4))
    clear c4
    obtain rfl := Option.some.inj H
    go_enter Try.func9, Try.ntmps9
    go_wp2_with (first | ((with_reducible refine gate_callee (f := 27) rfl ?_); refine goesL_ (some 4) rfl rfl Try.func27 (by kernel_rfl) rfl #[.int .i64 a0] rfl (by (try simp only [List.map_toArray, List.map_cons, List.map_nil]); first | done | rfl | (simp only [List.length_drop, List.length_take]; rfl)) ?_; (with_reducible refine (impl_IsAddcon.calls a0 t105 _ A2.out).mono ?_); rintro e w' ⟨rfl, ⟨nd, rfl⟩⟩; refine ⟨_, rfl, ?_⟩) | ((with_reducible refine gate_callee (f := 28) rfl ?_); refine goesL_ (some 6) rfl rfl Try.func28 (by kernel_rfl) rfl #[.int .i64 a0] rfl (by (try simp only [List.map_toArray, List.map_cons, List.map_nil]); first | done | rfl | (simp only [List.length_drop, List.length_take]; rfl)) ?_; (with_reducible refine (spec_IsAddend.calls a0 t106 _ A3.out).mono ?_); rintro e w' ⟨rfl, ⟨nd, rfl⟩⟩; refine ⟨_, rfl, ?_⟩))
    go_ret
    exact ⟨by first | rfl | (simp; done) | (simp [*]; done), by repeat (first | exact Drawn0.refl _ | apply Drawn0.step)⟩

/-- THE ONE PURE STATEMENT of laws_FnAddconIs: yours. -/
def laws_FnAddconIs.Pure : Prop := ∀ (a0 : Int), (Lit.int .i64 a0).wf = true → laws_FnAddconIs.f a0 = some true
theorem laws_FnAddconIs.walk (P : laws_FnAddconIs.Pure) (a0 : Int) (w : World) (w0 : (Lit.int .i64 a0).wf = true) :
    Calls Try.prog 9 #[.int .i64 a0] w fun e w' => e = .returned (.bool true) ∧ Below w.heap.size w w' := by
  have h := P a0 w0
  refine (laws_FnAddconIs.calls a0 true w h).mono ?_
  rintro e w' ⟨rfl, hd⟩
  exact ⟨rfl, hd.below⟩

end Go.Proofs.Ytffpghicoalmhaa.PFnAddconIs
