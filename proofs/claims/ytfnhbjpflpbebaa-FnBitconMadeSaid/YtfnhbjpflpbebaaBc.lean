/- FnBitconMade: a run of ones, turned within an element that is repeated, is a bit constant; no condition. The walks, and the finite check. -/
import Derived.Test.YtfnhbjpflpbebaaPFnBitconMadex1
import Derived.Test.YtfnhbjpflpbebaaKit
import Derived.Lib.Hide
import Derived.Deep.RegionWith
import Derived.WalkSmall
namespace Go.Proofs.Ytfnhbjpflpbebaa.Bc
set_option linter.unusedSimpArgs false
open Go.RowKit Go.Proofs.YtfnhbjpflpbebaaW.PrintWords Go.Proofs.YtfnhbjpflpbebaaW.PrintLast Go.Proofs.Ytfnhbjpflpbebaa.Kit Go.Proofs.Ytfnhbjpflpbebaa.PFnBitconMade
def sq (a : Int) : Bool := (ssarewrite_sequenceOfOnes.f a).getD false
theorem c74 (a : Int) (w : World) : Calls Try.prog 74 #[.int .u64 a] w fun e w' => e = .returned (.bool (sq a)) ∧ ∃ n, w' = w.drewN n :=
  (ssarewrite_sequenceOfOnes.calls a (sq a) w (by unfold sq ssarewrite_sequenceOfOnes.f; rfl)).mono fun e w' ⟨h1, n, h2⟩ => ⟨h1, n, h2⟩
def two (a : Int) : Bool := sq a || sq (Go.bits .xor .u64 IntKind.u64.max a)
/-- what isARM64bitcon answers. -/
def bc (x : Int) : Bool :=
  if x == 18446744073709551615 || x == 0 then false else
  if x != Go.bits .or .u64 (x / 4294967296) (IntKind.u64.wrap (x * 4294967296)) then two x else
  if x != Go.bits .or .u64 (x / 65536) (IntKind.u64.wrap (x * 281474976710656)) then two (IntKind.u64.wrap (wrap64 (wrap32 x))) else
  if x != Go.bits .or .u64 (x / 256) (IntKind.u64.wrap (x * 72057594037927936)) then two (IntKind.u64.wrap (wrap64 (IntKind.i16.wrap x))) else
  if x != Go.bits .or .u64 (x / 16) (IntKind.u64.wrap (x * 1152921504606846976)) then two (IntKind.u64.wrap (wrap64 (IntKind.i8.wrap x))) else true
theorem ret_bool {v : Value} {b c : Bool} (h1 : v = .bool b) (h2 : b = c) : Ending.returned v = .returned (.bool c) := by rw [h1, h2]
set_option maxHeartbeats 8000000 in
set_option maxRecDepth 100000 in
theorem c57 (x : Int) (w : World) : Calls Try.prog 57 #[.int .u64 x] w fun e w' => e = .returned (.bool (bc x)) ∧ ∃ n, w' = w.drewN n := by
  go_enter Try.func57, Try.ntmps57
  go_wp2_with (go_at_call 74; refine (c74 _ _).mono ?_; rintro e w' ⟨rfl, ⟨nd, rfl⟩⟩)
  all_goals (first | go_ret | skip)
  all_goals (refine ⟨?_, by first | exact ⟨0, rfl⟩ | exact ⟨_, rfl⟩⟩)
  all_goals (refine ret_bool rfl ?_)
  all_goals (unfold bc two; first
    | (subst_vars; rfl)
    | (simp only [*, Bool.false_eq_true, if_false, if_true, Bool.true_or, Bool.false_or, Bool.or_false, Bool.or_true, or_true, true_or, Bool.or_self, Bool.or_eq_true, or_self]; done)
    | (rw [Bool.eq_iff_iff]; simp only [*, Bool.false_eq_true, if_false, if_true, Bool.true_or, Bool.false_or, Bool.or_false, Bool.or_true, or_true, true_or, false_or, Bool.or_self, Bool.or_eq_true, or_self]; done))
theorem c38 (x : Int) (w : World) : Calls Try.prog 38 #[.int .u64 x] w fun e w' => e = .returned (.bool (bc x)) ∧ ∃ n, w' = w.drewN n := by
  go_enter Try.func38, Try.ntmps38
  go_wp2_with (go_at_call 57; refine (c57 _ _).mono ?_; rintro e w' ⟨rfl, ⟨nd, rfl⟩⟩)
  go_ret
  exact ⟨rfl, _, rfl⟩
theorem c18 (x : Int) (w : World) : Calls Try.prog 18 #[.int .u64 x] w fun e w' => e = .returned (.bool (bc x)) ∧ ∃ n, w' = w.drewN n := by
  go_enter Try.func18, Try.ntmps18
  go_wp2_with (go_at_call 38; refine (c38 _ _).mono ?_; rintro e w' ⟨rfl, ⟨nd, rfl⟩⟩)
  go_ret
  exact ⟨rfl, _, rfl⟩
theorem bc_no : bc 0 = false := by decide +kernel
theorem bc_all : bc 18446744073709551615 = false := by decide +kernel
def chk (b m t : Int) : Bool :=
  match spec_Run.f 0 (IntKind.u64.wrap (1 + IntKind.u64.wrap m)) with
  | none => false
  | some r => match spec_Turn.f r b (IntKind.u64.wrap t) with
    | none => false
    | some y => match spec_Repeat.f 70 y b with
      | none => false
      | some x => bc x
theorem chk_some {b m t : Int} (h : chk b m t = true) : ∃ r y x, spec_Run.f 0 (IntKind.u64.wrap (1 + IntKind.u64.wrap m)) = some r ∧ spec_Turn.f r b (IntKind.u64.wrap t) = some y ∧ spec_Repeat.f 70 y b = some x ∧ bc x = true := by
  unfold chk at h
  split at h
  · cases h
  · split at h
    · cases h
    · split at h
      · cases h
      · exact ⟨_, _, _, ‹_›, ‹_›, ‹_›, h⟩
theorem chk_of (b : Int) (n : Nat) (h : ∀ m : Fin n, ∀ t : Fin 64, chk b (m.val : Int) (t.val : Int) = true) (m t : Int) (hm : 0 ≤ m) (hm' : m < n) (ht : 0 ≤ t) (ht' : t < 64) : chk b m t = true := by
  have := h ⟨m.toNat, by omega⟩ ⟨t.toNat, by omega⟩
  simpa [Int.toNat_of_nonneg hm, Int.toNat_of_nonneg ht] using this
theorem rwat (a n : Int) (hn : 0 < n) (hb : n ≤ 1152921504606846976) : laws_rwAt.f a n = some (a % n) := by
  unfold laws_rwAt.f
  rw [if_neg (by omega), rw_at a n hn hb]
def rr (a n : Int) : Int := (laws_rwAt.f a n).getD 0
theorem c14 (a n : Int) (h : (n == 0) = false) (w : World) : Calls Try.prog 14 #[.int .i64 a, .int .i64 n] w fun e w' => e = .returned (.int .i64 (rr a n)) ∧ ∃ k, w' = w.drewN k :=
  (laws_rwAt.calls a n (rr a n) w (by unfold rr laws_rwAt.f; rw [if_neg (by simpa using h)]; rfl)).mono fun e w' ⟨h1, k, h2⟩ => ⟨h1, k, h2⟩
theorem rr_at (a n : Int) (hn : 0 < n) (hb : n ≤ 1152921504606846976) : rr a n = a % n := by unfold rr; rw [rwat a n hn hb]; rfl
set_option maxHeartbeats 8000000 in
set_option maxRecDepth 100000 in
theorem law2 (k : Nat) (size many by_ m t r y x : Int) (W : World) (hs : rr size 6 = 0) (hm : rr many 1 = m) (ht : rr by_ 64 = t)
    (h1 : spec_Run.f 0 (IntKind.u64.wrap (1 + IntKind.u64.wrap m)) = some r) (h2 : spec_Turn.f r 2 (IntKind.u64.wrap t) = some y) (h3 : spec_Repeat.f k y 2 = some x) (h4 : bc x = true) :
    Calls Try.prog 5 #[.int .i64 size, .int .i64 many, .int .i64 by_] W fun e W' => e = .returned (.bool true) ∧ Below W.heap.size W W' := by
  have HS := Lib.hid hs
  have HM := Lib.hid hm
  have HT := Lib.hid ht
  have H1 := Lib.hid h1
  have H2 := Lib.hid h2
  have H3 := Lib.hid h3
  have H4 := Lib.hid h4
  have HN := Lib.hid bc_no
  have HA := Lib.hid bc_all
  clear hs hm ht h1 h2 h3 h4
  go_enter Try.func5, Try.ntmps5
  go_wp2_with (first
    | (go_at_call 14; refine (c14 _ _ (by decide) _).mono ?_; rintro e w' ⟨rfl, ⟨nd, rfl⟩⟩; first | rw [HS.out] | rw [HM.out] | rw [HT.out])
    | (go_at_call 17; refine (spec_Run.calls _ _ _ _ H1.out).mono ?_; rintro e w' ⟨rfl, ⟨nd, rfl⟩⟩)
    | (go_at_call 16; refine (spec_Turn.calls _ _ _ _ _ H2.out).mono ?_; rintro e w' ⟨rfl, ⟨nd, rfl⟩⟩)
    | (go_at_call 15; refine (spec_Repeat.calls _ _ _ _ _ H3.out).mono ?_; rintro e w' ⟨rfl, ⟨nd, rfl⟩⟩)
    | (go_at_call 18; refine (c18 _ _).mono ?_; rintro e w' ⟨rfl, ⟨nd, rfl⟩⟩; first | rw [H4.out] | rw [HN.out] | rw [HA.out]))
  all_goals (go_ret; exact ⟨rfl, by repeat (first | exact Below.refl _ _ | apply below_drewN)⟩)
set_option maxHeartbeats 8000000 in
set_option maxRecDepth 100000 in
theorem law4 (k : Nat) (size many by_ m t r y x : Int) (W : World) (hs : rr size 6 = 1) (hm : rr many 3 = m) (ht : rr by_ 64 = t)
    (h1 : spec_Run.f 0 (IntKind.u64.wrap (1 + IntKind.u64.wrap m)) = some r) (h2 : spec_Turn.f r 4 (IntKind.u64.wrap t) = some y) (h3 : spec_Repeat.f k y 4 = some x) (h4 : bc x = true) :
    Calls Try.prog 5 #[.int .i64 size, .int .i64 many, .int .i64 by_] W fun e W' => e = .returned (.bool true) ∧ Below W.heap.size W W' := by
  have HS := Lib.hid hs
  have HM := Lib.hid hm
  have HT := Lib.hid ht
  have H1 := Lib.hid h1
  have H2 := Lib.hid h2
  have H3 := Lib.hid h3
  have H4 := Lib.hid h4
  have HN := Lib.hid bc_no
  have HA := Lib.hid bc_all
  clear hs hm ht h1 h2 h3 h4
  go_enter Try.func5, Try.ntmps5
  go_wp2_with (first
    | (go_at_call 14; refine (c14 _ _ (by decide) _).mono ?_; rintro e w' ⟨rfl, ⟨nd, rfl⟩⟩; first | rw [HS.out] | rw [HM.out] | rw [HT.out])
    | (go_at_call 17; refine (spec_Run.calls _ _ _ _ H1.out).mono ?_; rintro e w' ⟨rfl, ⟨nd, rfl⟩⟩)
    | (go_at_call 16; refine (spec_Turn.calls _ _ _ _ _ H2.out).mono ?_; rintro e w' ⟨rfl, ⟨nd, rfl⟩⟩)
    | (go_at_call 15; refine (spec_Repeat.calls _ _ _ _ _ H3.out).mono ?_; rintro e w' ⟨rfl, ⟨nd, rfl⟩⟩)
    | (go_at_call 18; refine (c18 _ _).mono ?_; rintro e w' ⟨rfl, ⟨nd, rfl⟩⟩; first | rw [H4.out] | rw [HN.out] | rw [HA.out]))
  all_goals (go_ret; exact ⟨rfl, by repeat (first | exact Below.refl _ _ | apply below_drewN)⟩)
set_option maxHeartbeats 8000000 in
set_option maxRecDepth 100000 in
theorem law8 (k : Nat) (size many by_ m t r y x : Int) (W : World) (hs : rr size 6 = 2) (hm : rr many 7 = m) (ht : rr by_ 64 = t)
    (h1 : spec_Run.f 0 (IntKind.u64.wrap (1 + IntKind.u64.wrap m)) = some r) (h2 : spec_Turn.f r 8 (IntKind.u64.wrap t) = some y) (h3 : spec_Repeat.f k y 8 = some x) (h4 : bc x = true) :
    Calls Try.prog 5 #[.int .i64 size, .int .i64 many, .int .i64 by_] W fun e W' => e = .returned (.bool true) ∧ Below W.heap.size W W' := by
  have HS := Lib.hid hs
  have HM := Lib.hid hm
  have HT := Lib.hid ht
  have H1 := Lib.hid h1
  have H2 := Lib.hid h2
  have H3 := Lib.hid h3
  have H4 := Lib.hid h4
  have HN := Lib.hid bc_no
  have HA := Lib.hid bc_all
  clear hs hm ht h1 h2 h3 h4
  go_enter Try.func5, Try.ntmps5
  go_wp2_with (first
    | (go_at_call 14; refine (c14 _ _ (by decide) _).mono ?_; rintro e w' ⟨rfl, ⟨nd, rfl⟩⟩; first | rw [HS.out] | rw [HM.out] | rw [HT.out])
    | (go_at_call 17; refine (spec_Run.calls _ _ _ _ H1.out).mono ?_; rintro e w' ⟨rfl, ⟨nd, rfl⟩⟩)
    | (go_at_call 16; refine (spec_Turn.calls _ _ _ _ _ H2.out).mono ?_; rintro e w' ⟨rfl, ⟨nd, rfl⟩⟩)
    | (go_at_call 15; refine (spec_Repeat.calls _ _ _ _ _ H3.out).mono ?_; rintro e w' ⟨rfl, ⟨nd, rfl⟩⟩)
    | (go_at_call 18; refine (c18 _ _).mono ?_; rintro e w' ⟨rfl, ⟨nd, rfl⟩⟩; first | rw [H4.out] | rw [HN.out] | rw [HA.out]))
  all_goals (go_ret; exact ⟨rfl, by repeat (first | exact Below.refl _ _ | apply below_drewN)⟩)
set_option maxHeartbeats 8000000 in
set_option maxRecDepth 100000 in
theorem law16 (k : Nat) (size many by_ m t r y x : Int) (W : World) (hs : rr size 6 = 3) (hm : rr many 15 = m) (ht : rr by_ 64 = t)
    (h1 : spec_Run.f 0 (IntKind.u64.wrap (1 + IntKind.u64.wrap m)) = some r) (h2 : spec_Turn.f r 16 (IntKind.u64.wrap t) = some y) (h3 : spec_Repeat.f k y 16 = some x) (h4 : bc x = true) :
    Calls Try.prog 5 #[.int .i64 size, .int .i64 many, .int .i64 by_] W fun e W' => e = .returned (.bool true) ∧ Below W.heap.size W W' := by
  have HS := Lib.hid hs
  have HM := Lib.hid hm
  have HT := Lib.hid ht
  have H1 := Lib.hid h1
  have H2 := Lib.hid h2
  have H3 := Lib.hid h3
  have H4 := Lib.hid h4
  have HN := Lib.hid bc_no
  have HA := Lib.hid bc_all
  clear hs hm ht h1 h2 h3 h4
  go_enter Try.func5, Try.ntmps5
  go_wp2_with (first
    | (go_at_call 14; refine (c14 _ _ (by decide) _).mono ?_; rintro e w' ⟨rfl, ⟨nd, rfl⟩⟩; first | rw [HS.out] | rw [HM.out] | rw [HT.out])
    | (go_at_call 17; refine (spec_Run.calls _ _ _ _ H1.out).mono ?_; rintro e w' ⟨rfl, ⟨nd, rfl⟩⟩)
    | (go_at_call 16; refine (spec_Turn.calls _ _ _ _ _ H2.out).mono ?_; rintro e w' ⟨rfl, ⟨nd, rfl⟩⟩)
    | (go_at_call 15; refine (spec_Repeat.calls _ _ _ _ _ H3.out).mono ?_; rintro e w' ⟨rfl, ⟨nd, rfl⟩⟩)
    | (go_at_call 18; refine (c18 _ _).mono ?_; rintro e w' ⟨rfl, ⟨nd, rfl⟩⟩; first | rw [H4.out] | rw [HN.out] | rw [HA.out]))
  all_goals (go_ret; exact ⟨rfl, by repeat (first | exact Below.refl _ _ | apply below_drewN)⟩)
set_option maxHeartbeats 8000000 in
set_option maxRecDepth 100000 in
theorem law32 (k : Nat) (size many by_ m t r y x : Int) (W : World) (hs : rr size 6 = 4) (hm : rr many 31 = m) (ht : rr by_ 64 = t)
    (h1 : spec_Run.f 0 (IntKind.u64.wrap (1 + IntKind.u64.wrap m)) = some r) (h2 : spec_Turn.f r 32 (IntKind.u64.wrap t) = some y) (h3 : spec_Repeat.f k y 32 = some x) (h4 : bc x = true) :
    Calls Try.prog 5 #[.int .i64 size, .int .i64 many, .int .i64 by_] W fun e W' => e = .returned (.bool true) ∧ Below W.heap.size W W' := by
  have HS := Lib.hid hs
  have HM := Lib.hid hm
  have HT := Lib.hid ht
  have H1 := Lib.hid h1
  have H2 := Lib.hid h2
  have H3 := Lib.hid h3
  have H4 := Lib.hid h4
  have HN := Lib.hid bc_no
  have HA := Lib.hid bc_all
  clear hs hm ht h1 h2 h3 h4
  go_enter Try.func5, Try.ntmps5
  go_wp2_with (first
    | (go_at_call 14; refine (c14 _ _ (by decide) _).mono ?_; rintro e w' ⟨rfl, ⟨nd, rfl⟩⟩; first | rw [HS.out] | rw [HM.out] | rw [HT.out])
    | (go_at_call 17; refine (spec_Run.calls _ _ _ _ H1.out).mono ?_; rintro e w' ⟨rfl, ⟨nd, rfl⟩⟩)
    | (go_at_call 16; refine (spec_Turn.calls _ _ _ _ _ H2.out).mono ?_; rintro e w' ⟨rfl, ⟨nd, rfl⟩⟩)
    | (go_at_call 15; refine (spec_Repeat.calls _ _ _ _ _ H3.out).mono ?_; rintro e w' ⟨rfl, ⟨nd, rfl⟩⟩)
    | (go_at_call 18; refine (c18 _ _).mono ?_; rintro e w' ⟨rfl, ⟨nd, rfl⟩⟩; first | rw [H4.out] | rw [HN.out] | rw [HA.out]))
  all_goals (go_ret; exact ⟨rfl, by repeat (first | exact Below.refl _ _ | apply below_drewN)⟩)
set_option maxHeartbeats 8000000 in
set_option maxRecDepth 100000 in
theorem law64 (k : Nat) (size many by_ m t r y x : Int) (W : World) (hs : rr size 6 = 5) (hm : rr many 63 = m) (ht : rr by_ 64 = t)
    (h1 : spec_Run.f 0 (IntKind.u64.wrap (1 + IntKind.u64.wrap m)) = some r) (h2 : spec_Turn.f r 64 (IntKind.u64.wrap t) = some y) (h3 : spec_Repeat.f k y 64 = some x) (h4 : bc x = true) :
    Calls Try.prog 5 #[.int .i64 size, .int .i64 many, .int .i64 by_] W fun e W' => e = .returned (.bool true) ∧ Below W.heap.size W W' := by
  have HS := Lib.hid hs
  have HM := Lib.hid hm
  have HT := Lib.hid ht
  have H1 := Lib.hid h1
  have H2 := Lib.hid h2
  have H3 := Lib.hid h3
  have H4 := Lib.hid h4
  have HN := Lib.hid bc_no
  have HA := Lib.hid bc_all
  clear hs hm ht h1 h2 h3 h4
  go_enter Try.func5, Try.ntmps5
  go_wp2_with (first
    | (go_at_call 14; refine (c14 _ _ (by decide) _).mono ?_; rintro e w' ⟨rfl, ⟨nd, rfl⟩⟩; first | rw [HS.out] | rw [HM.out] | rw [HT.out])
    | (go_at_call 17; refine (spec_Run.calls _ _ _ _ H1.out).mono ?_; rintro e w' ⟨rfl, ⟨nd, rfl⟩⟩)
    | (go_at_call 16; refine (spec_Turn.calls _ _ _ _ _ H2.out).mono ?_; rintro e w' ⟨rfl, ⟨nd, rfl⟩⟩)
    | (go_at_call 15; refine (spec_Repeat.calls _ _ _ _ _ H3.out).mono ?_; rintro e w' ⟨rfl, ⟨nd, rfl⟩⟩)
    | (go_at_call 18; refine (c18 _ _).mono ?_; rintro e w' ⟨rfl, ⟨nd, rfl⟩⟩; first | rw [H4.out] | rw [HN.out] | rw [HA.out]))
  all_goals (go_ret; exact ⟨rfl, by repeat (first | exact Below.refl _ _ | apply below_drewN)⟩)
end Go.Proofs.Ytfnhbjpflpbebaa.Bc
