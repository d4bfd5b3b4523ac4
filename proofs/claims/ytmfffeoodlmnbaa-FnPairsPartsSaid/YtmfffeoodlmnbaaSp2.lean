/- Overlaps, adjacent, done, in, out: as print.sh writes them, taken over whole, so that all laws of the seat share them: a Lean function each, and that the Go code comes to its answers. No condition. -/
import Derived.Test.YtmfffeoodlmnbaaProg
import Derived.Below
import Derived.Deep.Draws
import Derived.Deep.AppendLies
import Derived.Maps.AppendAt
import Derived.OwnWalk
import Derived.Laws.BytesArg
import Derived.Laws.MakeOwn
import Derived.Laws.OwnMore
import Derived.Deep.OwnRows
import Derived.Tactics
import Derived.Lib.ConvBytes
import Derived.Laws.Slices
import Derived.WalkKit
import Derived.KernelRfl
import Derived.RowKit3
import Derived.Deep.LoopGhost
import Derived.Deep.QuietTactic
import Derived.BigQuiet
import Derived.WideLaws
import Derived.Deep.DeepCutAuto
import Derived.Deep.CutBlock
import Derived.Deep.RegionHeld3
import Derived.Laws.Rows
import Derived.Lib.AppendStr
import Derived.ArgAppend
import Derived.Laws.IdiomCopy
import Derived.OrdersHeld
import Derived.Laws.BitsLemmas
import Derived.RowKit
import Derived.Test.YtmfffeoodlmnbaaWWords
import Derived.Test.YtmfffeoodlmnbaaWLast
import Derived.Test.YtmfffeoodlmnbaaWTab
import Derived.Test.YtmfffeoodlmnbaaWFour
import Derived.Test.YtmfffeoodlmnbaaWQPut
import Derived.Test.YtmfffeoodlmnbaaWApart
import Derived.Test.YtmfffeoodlmnbaaWArr
import Derived.Test.YtmfffeoodlmnbaaWZeros
import Derived.Test.YtmfffeoodlmnbaaWFoot
import Derived.Test.YtmfffeoodlmnbaaWKept
import Derived.Test.YtmfffeoodlmnbaaWShare
import Derived.Test.YtmfffeoodlmnbaaWN
import Derived.Test.YtmfffeoodlmnbaaWFootNe
import Derived.Test.YtmfffeoodlmnbaaWAt
import Derived.Test.YtmfffeoodlmnbaaWEqStruct
import Derived.Test.YtmfffeoodlmnbaaWRepsOne
import Derived.Test.YtmfffeoodlmnbaaWInv
import Derived.Test.YtmfffeoodlmnbaaWInvWords
import Derived.Test.YtmfffeoodlmnbaaWGuard
import Derived.Test.YtmfffeoodlmnbaaWNEv
import Derived.Test.YtmfffeoodlmnbaaWMore
import Derived.Test.YtmfffeoodlmnbaaSp1
namespace Go.Proofs.Ytmfffeoodlmnbaa.Sp
open Go.RowKit Go.Proofs.YtmfffeoodlmnbaaW.PrintWords Go.Proofs.YtmfffeoodlmnbaaW.PrintLast Go.Proofs.YtmfffeoodlmnbaaW.PrintMore
attribute [local go_sem] max2_int min2_int max_two min_two max_three min_three max_four min_four
set_option linter.unusedVariables false
set_option linter.unusedSimpArgs false
/-! ### intervals_imin: function 51 -/
def intervals_imin.f (a0 : Int) (a1 : Int) : Option (Int) := if a0 < a1 then (some a0) else (some a1)
set_option maxHeartbeats 8000000 in
set_option maxRecDepth 100000 in
theorem intervals_imin.calls (a0 : Int) (a1 : Int) (r : Int) (w : World) (h : intervals_imin.f a0 a1 = some r) :
    Calls Try.prog 51 #[.int .i64 a0, .int .i64 a1] w fun e w' => e = .returned (.int .i64 r) ∧ Drawn0 w w' := by
  have H : (if a0 < a1 then (some a0) else (some a1)) = some r := h
  clear h
  by_cases c3 : a0 < a1
  · rw [if_pos c3] at H
    have c3b0 : decide (a0 < a1) = true := decide_eq_true c3
    clear c3
    obtain rfl := Option.some.inj H
    go_enter Try.func51, Try.ntmps51
    go_wp2
    go_ret
    exact ⟨by first | rfl | (simp; done) | (simp [*]; done), by repeat (first | exact Drawn0.refl _ | apply Drawn0.step)⟩
  · rw [if_neg c3] at H
    have c3b0 : decide (a0 < a1) = false := decide_eq_false c3
    clear c3
    obtain rfl := Option.some.inj H
    go_enter Try.func51, Try.ntmps51
    go_wp2
    go_ret
    exact ⟨by first | rfl | (simp; done) | (simp [*]; done), by repeat (first | exact Drawn0.refl _ | apply Drawn0.step)⟩

/-! ### intervals_imax: function 52 -/
def intervals_imax.f (a0 : Int) (a1 : Int) : Option (Int) := if a0 > a1 then (some a0) else (some a1)
set_option maxHeartbeats 8000000 in
set_option maxRecDepth 100000 in
theorem intervals_imax.calls (a0 : Int) (a1 : Int) (r : Int) (w : World) (h : intervals_imax.f a0 a1 = some r) :
    Calls Try.prog 52 #[.int .i64 a0, .int .i64 a1] w fun e w' => e = .returned (.int .i64 r) ∧ Drawn0 w w' := by
  have H : (if a0 > a1 then (some a0) else (some a1)) = some r := h
  clear h
  by_cases c3 : a0 > a1
  · rw [if_pos c3] at H
    have c3b0 : decide (a1 < a0) = true := decide_eq_true c3
    clear c3
    obtain rfl := Option.some.inj H
    go_enter Try.func52, Try.ntmps52
    go_wp2
    go_ret
    exact ⟨by first | rfl | (simp; done) | (simp [*]; done), by repeat (first | exact Drawn0.refl _ | apply Drawn0.step)⟩
  · rw [if_neg c3] at H
    have c3b0 : decide (a1 < a0) = false := decide_eq_false c3
    clear c3
    obtain rfl := Option.some.inj H
    go_enter Try.func52, Try.ntmps52
    go_wp2
    go_ret
    exact ⟨by first | rfl | (simp; done) | (simp [*]; done), by repeat (first | exact Drawn0.refl _ | apply Drawn0.step)⟩

/-! ### intervals_Interval_Overlaps: function 38 -/
def intervals_Interval_Overlaps.f (a0_0 : Int) (a0_1 : Int) (a1_0 : Int) (a1_1 : Int) : Option (Bool) := (intervals_imin.f a0_1 a1_1).bind fun t109 => ((intervals_imax.f a0_0 a1_0).bind fun t110 => (some (decide ((wrap64 (t109 - t110)) > 0))))
set_option maxHeartbeats 8000000 in
set_option maxRecDepth 100000 in
theorem intervals_Interval_Overlaps.calls (a0_0 : Int) (a0_1 : Int) (a1_0 : Int) (a1_1 : Int) (r : Bool) (w : World) (h : intervals_Interval_Overlaps.f a0_0 a0_1 a1_0 a1_1 = some r) :
    Calls Try.prog 38 #[.agg #[.int .i64 a0_0, .int .i64 a0_1], .agg #[.int .i64 a1_0, .int .i64 a1_1]] w fun e w' => e = .returned (.bool r) ∧ Below w.heap.size w w' := by
  have hu63 := Try.underlying63
  have HB := Aside0.mk (Below.refl w.heap.size w)
  have H : ((intervals_imin.f a0_1 a1_1).bind fun t109 => ((intervals_imax.f a0_0 a1_0).bind fun t110 => (some (decide ((wrap64 (t109 - t110)) > 0))))) = some r := h
  clear h
  replace H := Option.bind_eq_some_iff.mp H
  obtain ⟨t109, A30, H⟩ := H
  replace H : ((intervals_imax.f a0_0 a1_0).bind fun t110 => (some (decide ((wrap64 (t109 - t110)) > 0)))) = some r := H
  have A3 := Aside0.mk A30
  clear A30
  replace H := Option.bind_eq_some_iff.mp H
  obtain ⟨t110, A40, H⟩ := H
  replace H : (some (decide ((wrap64 (t109 - t110)) > 0))) = some r := H
  have A4 := Aside0.mk A40
  clear A40
  obtain rfl := Option.some.inj H
  go_enter Try.func38, Try.ntmps38
  go_wp2_with (first | ((with_reducible refine gate_dst (N := 2) rfl ?_); refine box_event ?hg (N := 2) ?hd (cs := #[.int .i64 a0_0, .int .i64 a0_1]) (t := 63) ?hr ?_; (case hd => rfl); (case hg => rfl); (case hr => first | (go_simp; done) | (go_simp; rfl)); intro gb107 hg w5 hbox hb; have n0_ := Aside0.mk (below_step (by repeat (first | (with_reducible first | exact HB.out | apply below_alloc | apply pw_below_drewN | apply below_drew1) | exact HB.out)) hb); have n1_ := Aside0.mk (hbox); have n2_ := Aside0.mk ((by rw [hg]; exact (below_size (by repeat (first | (with_reducible first | exact HB.out | apply below_alloc | apply pw_below_drewN | apply below_drew1) | exact HB.out))) : w.heap.size ≤ gb107)); have n3_ := Aside0.mk ((by rw [hg]; exact (below_size (by repeat (first | (with_reducible first | exact HB.out | apply below_alloc | apply pw_below_drewN | apply below_drew1) | exact HB.out))) : w.heap.size ≤ gb107)); clear HB; have HB := n0_; have BK107 := n1_; have GW107 := n2_; have GE107 := n3_; clear n0_ n1_ n2_ n3_; clear hb hbox hg) | ((with_reducible refine gate_dst (N := 3) rfl ?_); refine box_event ?hg (N := 3) ?hd (cs := #[.int .i64 a1_0, .int .i64 a1_1]) (t := 63) ?hr ?_; (case hd => rfl); (case hg => rfl); (case hr => first | (go_simp; done) | (go_simp; rfl)); intro gb108 hg w6 hbox hb; have n0_ := Aside0.mk (blk_below (g := gb107) (o := .cells #[.int .i64 a0_0, .int .i64 a0_1] 63 (0, 0)) (by (with_reducible repeat (first | refine blk_drewN ?_ _ | refine blk_drew ?_ | refine blk_alloc ?_ _)); exact BK107.out) hb); have n1_ := Aside0.mk (below_step (by repeat (first | (with_reducible first | exact HB.out | apply below_alloc | apply pw_below_drewN | apply below_drew1 | refine below_set ?_ GE107.out) | exact HB.out)) hb); have n2_ := Aside0.mk (hbox); have n3_ := Aside0.mk ((by rw [hg]; exact (below_size (by repeat (first | (with_reducible first | exact HB.out | apply below_alloc | apply pw_below_drewN | apply below_drew1 | refine below_set ?_ GE107.out) | exact HB.out))) : w.heap.size ≤ gb108)); have n4_ := Aside0.mk ((by rw [hg]; exact (below_size (by repeat (first | (with_reducible first | exact HB.out | apply below_alloc | apply pw_below_drewN | apply below_drew1 | refine below_set ?_ GE107.out) | exact HB.out))) : w.heap.size ≤ gb108)); have n5_ := Aside0.mk ((by rw [hg]; exact Nat.ne_of_lt (blk_lt (g := gb107) (o := .cells #[.int .i64 a0_0, .int .i64 a0_1] 63 (0, 0)) (by (with_reducible repeat (first | refine blk_drewN ?_ _ | refine blk_drew ?_ | refine blk_alloc ?_ _)); exact BK107.out)) : gb107 ≠ gb108)); have n6_ := Aside0.mk ((by rw [hg]; exact Nat.ne_of_gt (blk_lt (g := gb107) (o := .cells #[.int .i64 a0_0, .int .i64 a0_1] 63 (0, 0)) (by (with_reducible repeat (first | refine blk_drewN ?_ _ | refine blk_drew ?_ | refine blk_alloc ?_ _)); exact BK107.out)) : gb108 ≠ gb107)); clear BK107; clear HB; have BK107 := n0_; have HB := n1_; have BK108 := n2_; have GW108 := n3_; have GE108 := n4_; have NB107_108 := n5_; have NB108_107 := n6_; clear n0_ n1_ n2_ n3_ n4_ n5_ n6_; clear hb hbox hg; have hnb7 := NB107_108.out; have hnc7 := NB108_107.out; have hcz8_0 : w6.cell? ⟨gb107, 0, none⟩ = some (.int .i64 a0_0) := (blk_cell BK107.out 0).trans rfl; have hcz8_1 : w6.cell? ⟨gb107, 1, none⟩ = some (.int .i64 a0_1) := (blk_cell BK107.out 1).trans rfl; have hfz8_0 := blk_frozen BK107.out 0; have hfz8_1 := blk_frozen BK107.out 1; have hcz9_0 : w6.cell? ⟨gb108, 0, none⟩ = some (.int .i64 a1_0) := (blk_cell BK108.out 0).trans rfl; have hcz9_1 : w6.cell? ⟨gb108, 1, none⟩ = some (.int .i64 a1_1) := (blk_cell BK108.out 1).trans rfl; have hfz9_0 := blk_frozen BK108.out 0; have hfz9_1 := blk_frozen BK108.out 1) | (go_at_call 51; (with_reducible refine (intervals_imin.calls a0_1 a1_1 t109 _ A3.out).mono ?_); rintro e w' ⟨rfl, ⟨nd, rfl⟩⟩; (try first | exact ⟨rfl, _, World.drewN_drewN _ _ _⟩ | exact ⟨rfl, _, Eq.trans (World.drewN_drewN _ _ _) (congrArg (World.drewN _) (Nat.add_assoc _ _ _))⟩)) | (go_at_call 52; (with_reducible refine (intervals_imax.calls a0_0 a1_0 t110 _ A4.out).mono ?_); rintro e w' ⟨rfl, ⟨nd, rfl⟩⟩; (try first | exact ⟨rfl, _, World.drewN_drewN _ _ _⟩ | exact ⟨rfl, _, Eq.trans (World.drewN_drewN _ _ _) (congrArg (World.drewN _) (Nat.add_assoc _ _ _))⟩)))
  repeat (go_quiet (first | ((with_reducible refine gate_dst (N := 2) rfl ?_); refine box_event ?hg (N := 2) ?hd (cs := #[.int .i64 a0_0, .int .i64 a0_1]) (t := 63) ?hr ?_; (case hd => rfl); (case hg => rfl); (case hr => first | (go_simp; done) | (go_simp; rfl)); intro gb107 hg w5 hbox hb; have n0_ := Aside0.mk (below_step (by repeat (first | (with_reducible first | exact HB.out | apply below_alloc | apply pw_below_drewN | apply below_drew1) | exact HB.out)) hb); have n1_ := Aside0.mk (hbox); have n2_ := Aside0.mk ((by rw [hg]; exact (below_size (by repeat (first | (with_reducible first | exact HB.out | apply below_alloc | apply pw_below_drewN | apply below_drew1) | exact HB.out))) : w.heap.size ≤ gb107)); have n3_ := Aside0.mk ((by rw [hg]; exact (below_size (by repeat (first | (with_reducible first | exact HB.out | apply below_alloc | apply pw_below_drewN | apply below_drew1) | exact HB.out))) : w.heap.size ≤ gb107)); clear HB; have HB := n0_; have BK107 := n1_; have GW107 := n2_; have GE107 := n3_; clear n0_ n1_ n2_ n3_; clear hb hbox hg) | ((with_reducible refine gate_dst (N := 3) rfl ?_); refine box_event ?hg (N := 3) ?hd (cs := #[.int .i64 a1_0, .int .i64 a1_1]) (t := 63) ?hr ?_; (case hd => rfl); (case hg => rfl); (case hr => first | (go_simp; done) | (go_simp; rfl)); intro gb108 hg w6 hbox hb; have n0_ := Aside0.mk (blk_below (g := gb107) (o := .cells #[.int .i64 a0_0, .int .i64 a0_1] 63 (0, 0)) (by (with_reducible repeat (first | refine blk_drewN ?_ _ | refine blk_drew ?_ | refine blk_alloc ?_ _)); exact BK107.out) hb); have n1_ := Aside0.mk (below_step (by repeat (first | (with_reducible first | exact HB.out | apply below_alloc | apply pw_below_drewN | apply below_drew1 | refine below_set ?_ GE107.out) | exact HB.out)) hb); have n2_ := Aside0.mk (hbox); have n3_ := Aside0.mk ((by rw [hg]; exact (below_size (by repeat (first | (with_reducible first | exact HB.out | apply below_alloc | apply pw_below_drewN | apply below_drew1 | refine below_set ?_ GE107.out) | exact HB.out))) : w.heap.size ≤ gb108)); have n4_ := Aside0.mk ((by rw [hg]; exact (below_size (by repeat (first | (with_reducible first | exact HB.out | apply below_alloc | apply pw_below_drewN | apply below_drew1 | refine below_set ?_ GE107.out) | exact HB.out))) : w.heap.size ≤ gb108)); have n5_ := Aside0.mk ((by rw [hg]; exact Nat.ne_of_lt (blk_lt (g := gb107) (o := .cells #[.int .i64 a0_0, .int .i64 a0_1] 63 (0, 0)) (by (with_reducible repeat (first | refine blk_drewN ?_ _ | refine blk_drew ?_ | refine blk_alloc ?_ _)); exact BK107.out)) : gb107 ≠ gb108)); have n6_ := Aside0.mk ((by rw [hg]; exact Nat.ne_of_gt (blk_lt (g := gb107) (o := .cells #[.int .i64 a0_0, .int .i64 a0_1] 63 (0, 0)) (by (with_reducible repeat (first | refine blk_drewN ?_ _ | refine blk_drew ?_ | refine blk_alloc ?_ _)); exact BK107.out)) : gb108 ≠ gb107)); clear BK107; clear HB; have BK107 := n0_; have HB := n1_; have BK108 := n2_; have GW108 := n3_; have GE108 := n4_; have NB107_108 := n5_; have NB108_107 := n6_; clear n0_ n1_ n2_ n3_ n4_ n5_ n6_; clear hb hbox hg; have hnb7 := NB107_108.out; have hnc7 := NB108_107.out; have hcz8_0 : w6.cell? ⟨gb107, 0, none⟩ = some (.int .i64 a0_0) := (blk_cell BK107.out 0).trans rfl; have hcz8_1 : w6.cell? ⟨gb107, 1, none⟩ = some (.int .i64 a0_1) := (blk_cell BK107.out 1).trans rfl; have hfz8_0 := blk_frozen BK107.out 0; have hfz8_1 := blk_frozen BK107.out 1; have hcz9_0 : w6.cell? ⟨gb108, 0, none⟩ = some (.int .i64 a1_0) := (blk_cell BK108.out 0).trans rfl; have hcz9_1 : w6.cell? ⟨gb108, 1, none⟩ = some (.int .i64 a1_1) := (blk_cell BK108.out 1).trans rfl; have hfz9_0 := blk_frozen BK108.out 0; have hfz9_1 := blk_frozen BK108.out 1) | (go_at_call 51; (with_reducible refine (intervals_imin.calls a0_1 a1_1 t109 _ A3.out).mono ?_); rintro e w' ⟨rfl, ⟨nd, rfl⟩⟩; (try first | exact ⟨rfl, _, World.drewN_drewN _ _ _⟩ | exact ⟨rfl, _, Eq.trans (World.drewN_drewN _ _ _) (congrArg (World.drewN _) (Nat.add_assoc _ _ _))⟩)) | (go_at_call 52; (with_reducible refine (intervals_imax.calls a0_0 a1_0 t110 _ A4.out).mono ?_); rintro e w' ⟨rfl, ⟨nd, rfl⟩⟩; (try first | exact ⟨rfl, _, World.drewN_drewN _ _ _⟩ | exact ⟨rfl, _, Eq.trans (World.drewN_drewN _ _ _) (congrArg (World.drewN _) (Nat.add_assoc _ _ _))⟩))); try go_wp2_with (first | ((with_reducible refine gate_dst (N := 2) rfl ?_); refine box_event ?hg (N := 2) ?hd (cs := #[.int .i64 a0_0, .int .i64 a0_1]) (t := 63) ?hr ?_; (case hd => rfl); (case hg => rfl); (case hr => first | (go_simp; done) | (go_simp; rfl)); intro gb107 hg w5 hbox hb; have n0_ := Aside0.mk (below_step (by repeat (first | (with_reducible first | exact HB.out | apply below_alloc | apply pw_below_drewN | apply below_drew1) | exact HB.out)) hb); have n1_ := Aside0.mk (hbox); have n2_ := Aside0.mk ((by rw [hg]; exact (below_size (by repeat (first | (with_reducible first | exact HB.out | apply below_alloc | apply pw_below_drewN | apply below_drew1) | exact HB.out))) : w.heap.size ≤ gb107)); have n3_ := Aside0.mk ((by rw [hg]; exact (below_size (by repeat (first | (with_reducible first | exact HB.out | apply below_alloc | apply pw_below_drewN | apply below_drew1) | exact HB.out))) : w.heap.size ≤ gb107)); clear HB; have HB := n0_; have BK107 := n1_; have GW107 := n2_; have GE107 := n3_; clear n0_ n1_ n2_ n3_; clear hb hbox hg) | ((with_reducible refine gate_dst (N := 3) rfl ?_); refine box_event ?hg (N := 3) ?hd (cs := #[.int .i64 a1_0, .int .i64 a1_1]) (t := 63) ?hr ?_; (case hd => rfl); (case hg => rfl); (case hr => first | (go_simp; done) | (go_simp; rfl)); intro gb108 hg w6 hbox hb; have n0_ := Aside0.mk (blk_below (g := gb107) (o := .cells #[.int .i64 a0_0, .int .i64 a0_1] 63 (0, 0)) (by (with_reducible repeat (first | refine blk_drewN ?_ _ | refine blk_drew ?_ | refine blk_alloc ?_ _)); exact BK107.out) hb); have n1_ := Aside0.mk (below_step (by repeat (first | (with_reducible first | exact HB.out | apply below_alloc | apply pw_below_drewN | apply below_drew1 | refine below_set ?_ GE107.out) | exact HB.out)) hb); have n2_ := Aside0.mk (hbox); have n3_ := Aside0.mk ((by rw [hg]; exact (below_size (by repeat (first | (with_reducible first | exact HB.out | apply below_alloc | apply pw_below_drewN | apply below_drew1 | refine below_set ?_ GE107.out) | exact HB.out))) : w.heap.size ≤ gb108)); have n4_ := Aside0.mk ((by rw [hg]; exact (below_size (by repeat (first | (with_reducible first | exact HB.out | apply below_alloc | apply pw_below_drewN | apply below_drew1 | refine below_set ?_ GE107.out) | exact HB.out))) : w.heap.size ≤ gb108)); have n5_ := Aside0.mk ((by rw [hg]; exact Nat.ne_of_lt (blk_lt (g := gb107) (o := .cells #[.int .i64 a0_0, .int .i64 a0_1] 63 (0, 0)) (by (with_reducible repeat (first | refine blk_drewN ?_ _ | refine blk_drew ?_ | refine blk_alloc ?_ _)); exact BK107.out)) : gb107 ≠ gb108)); have n6_ := Aside0.mk ((by rw [hg]; exact Nat.ne_of_gt (blk_lt (g := gb107) (o := .cells #[.int .i64 a0_0, .int .i64 a0_1] 63 (0, 0)) (by (with_reducible repeat (first | refine blk_drewN ?_ _ | refine blk_drew ?_ | refine blk_alloc ?_ _)); exact BK107.out)) : gb108 ≠ gb107)); clear BK107; clear HB; have BK107 := n0_; have HB := n1_; have BK108 := n2_; have GW108 := n3_; have GE108 := n4_; have NB107_108 := n5_; have NB108_107 := n6_; clear n0_ n1_ n2_ n3_ n4_ n5_ n6_; clear hb hbox hg; have hnb7 := NB107_108.out; have hnc7 := NB108_107.out; have hcz8_0 : w6.cell? ⟨gb107, 0, none⟩ = some (.int .i64 a0_0) := (blk_cell BK107.out 0).trans rfl; have hcz8_1 : w6.cell? ⟨gb107, 1, none⟩ = some (.int .i64 a0_1) := (blk_cell BK107.out 1).trans rfl; have hfz8_0 := blk_frozen BK107.out 0; have hfz8_1 := blk_frozen BK107.out 1; have hcz9_0 : w6.cell? ⟨gb108, 0, none⟩ = some (.int .i64 a1_0) := (blk_cell BK108.out 0).trans rfl; have hcz9_1 : w6.cell? ⟨gb108, 1, none⟩ = some (.int .i64 a1_1) := (blk_cell BK108.out 1).trans rfl; have hfz9_0 := blk_frozen BK108.out 0; have hfz9_1 := blk_frozen BK108.out 1) | (go_at_call 51; (with_reducible refine (intervals_imin.calls a0_1 a1_1 t109 _ A3.out).mono ?_); rintro e w' ⟨rfl, ⟨nd, rfl⟩⟩; (try first | exact ⟨rfl, _, World.drewN_drewN _ _ _⟩ | exact ⟨rfl, _, Eq.trans (World.drewN_drewN _ _ _) (congrArg (World.drewN _) (Nat.add_assoc _ _ _))⟩)) | (go_at_call 52; (with_reducible refine (intervals_imax.calls a0_0 a1_0 t110 _ A4.out).mono ?_); rintro e w' ⟨rfl, ⟨nd, rfl⟩⟩; (try first | exact ⟨rfl, _, World.drewN_drewN _ _ _⟩ | exact ⟨rfl, _, Eq.trans (World.drewN_drewN _ _ _) (congrArg (World.drewN _) (Nat.add_assoc _ _ _))⟩))))
  go_ret
  exact ⟨by first | rfl | (simp [errW_none, errW_some] <;> rfl) | (simp [*, errW_none, errW_some] <;> rfl), by repeat (first | (with_reducible first | exact HB.out | apply below_alloc | apply pw_below_drewN | apply below_drew1 | refine below_set ?_ GE107.out | refine below_set ?_ GE108.out) | exact HB.out)⟩

/-! ### impl_Overlap: function 24 -/
def impl_Overlap.f (a0_0 : Int) (a0_1 : Int) (a1_0 : Int) (a1_1 : Int) : Option (Bool) := (intervals_NewInterval.f a0_0 a0_1).bind fun bt113 => ((intervals_NewInterval.f a1_0 a1_1).bind fun bt115 => ((intervals_Interval_Overlaps.f bt113.1 bt113.2 bt115.1 bt115.2).bind fun t117 => (some t117)))
def impl_Overlap.T1 : Bool × List (List Nat × List Nat) := (true, [([], []), ([0], [0]), ([], []), ([2], [2]), ([1, 3], [1, 3]), ([], []), ([5], [5]), ([], []), ([7], [7]), ([6, 8, 4], [6, 8]), ([4, 9, 9], [4, 9]), ([10, 10, 0, 1, 2, 3, 4, 5, 6, 7, 8, 9, 10], [10])])
def impl_Overlap.B1 : List Nat := [0, 1, 0, 4, 15, 0, 32, 0, 128, 511, 1023, 2047]
theorem impl_Overlap.tab1 : rtab .any (opsOf Try.f24 1) = impl_Overlap.T1 := by kernel_rfl
theorem impl_Overlap.bits1 : waitsOk impl_Overlap.T1.2 impl_Overlap.B1 = true := by kernel_rfl
set_option maxHeartbeats 8000000 in
set_option maxRecDepth 100000 in
theorem impl_Overlap.calls (a0_0 : Int) (a0_1 : Int) (a1_0 : Int) (a1_1 : Int) (r : Bool) (w : World) (h : impl_Overlap.f a0_0 a0_1 a1_0 a1_1 = some r) :
    Calls Try.prog 24 #[.agg #[.int .i64 a0_0, .int .i64 a0_1], .agg #[.int .i64 a1_0, .int .i64 a1_1]] w fun e w' => e = .returned (.bool r) ∧ Below w.heap.size w w' := by
  have hu39 := Try.underlying39
  have HB := Aside0.mk (Below.refl w.heap.size w)
  have H : ((intervals_NewInterval.f a0_0 a0_1).bind fun bt113 => ((intervals_NewInterval.f a1_0 a1_1).bind fun bt115 => ((intervals_Interval_Overlaps.f bt113.1 bt113.2 bt115.1 bt115.2).bind fun t117 => (some t117)))) = some r := h
  clear h
  replace H := Option.bind_eq_some_iff.mp H
  obtain ⟨⟨t113, t114⟩, A30, H⟩ := H
  replace H : ((intervals_NewInterval.f a1_0 a1_1).bind fun bt115 => ((intervals_Interval_Overlaps.f t113 t114 bt115.1 bt115.2).bind fun t117 => (some t117))) = some r := H
  have A3 := Aside0.mk A30
  clear A30
  replace H := Option.bind_eq_some_iff.mp H
  obtain ⟨⟨t115, t116⟩, A40, H⟩ := H
  replace H : ((intervals_Interval_Overlaps.f t113 t114 t115 t116).bind fun t117 => (some t117)) = some r := H
  have A4 := Aside0.mk A40
  clear A40
  replace H := Option.bind_eq_some_iff.mp H
  obtain ⟨t117, A50, H⟩ := H
  replace H : (some t117) = some r := H
  have A5 := Aside0.mk A50
  clear A50
  obtain rfl := Option.some.inj H
  go_enter Try.func24, Try.ntmps24
  try go_wp2_with (first | ((with_reducible refine gate_dst (N := 2) rfl ?_); refine box_event ?hg (N := 2) ?hd (cs := #[.int .i64 a0_0, .int .i64 a0_1]) (t := 39) ?hr ?_; (case hd => rfl); (case hg => rfl); (case hr => first | (go_simp; done) | (go_simp; rfl)); intro gb111 hg w6 hbox hb; have n0_ := Aside0.mk (below_step (by repeat (first | (with_reducible first | exact HB.out | apply below_alloc | apply pw_below_drewN | apply below_drew1) | exact HB.out)) hb); have n1_ := Aside0.mk (hbox); have n2_ := Aside0.mk ((by rw [hg]; exact (below_size (by repeat (first | (with_reducible first | exact HB.out | apply below_alloc | apply pw_below_drewN | apply below_drew1) | exact HB.out))) : w.heap.size ≤ gb111)); have n3_ := Aside0.mk ((by rw [hg]; exact (below_size (by repeat (first | (with_reducible first | exact HB.out | apply below_alloc | apply pw_below_drewN | apply below_drew1) | exact HB.out))) : w.heap.size ≤ gb111)); clear HB; have HB := n0_; have BK111 := n1_; have GW111 := n2_; have GE111 := n3_; clear n0_ n1_ n2_ n3_; clear hb hbox hg) | ((with_reducible refine gate_dst (N := 3) rfl ?_); refine box_event ?hg (N := 3) ?hd (cs := #[.int .i64 a1_0, .int .i64 a1_1]) (t := 39) ?hr ?_; (case hd => rfl); (case hg => rfl); (case hr => first | (go_simp; done) | (go_simp; rfl)); intro gb112 hg w7 hbox hb; have n0_ := Aside0.mk (blk_below (g := gb111) (o := .cells #[.int .i64 a0_0, .int .i64 a0_1] 39 (0, 0)) (by (with_reducible repeat (first | refine blk_drewN ?_ _ | refine blk_drew ?_ | refine blk_alloc ?_ _)); exact BK111.out) hb); have n1_ := Aside0.mk (below_step (by repeat (first | (with_reducible first | exact HB.out | apply below_alloc | apply pw_below_drewN | apply below_drew1 | refine below_set ?_ GE111.out) | exact HB.out)) hb); have n2_ := Aside0.mk (hbox); have n3_ := Aside0.mk ((by rw [hg]; exact (below_size (by repeat (first | (with_reducible first | exact HB.out | apply below_alloc | apply pw_below_drewN | apply below_drew1 | refine below_set ?_ GE111.out) | exact HB.out))) : w.heap.size ≤ gb112)); have n4_ := Aside0.mk ((by rw [hg]; exact (below_size (by repeat (first | (with_reducible first | exact HB.out | apply below_alloc | apply pw_below_drewN | apply below_drew1 | refine below_set ?_ GE111.out) | exact HB.out))) : w.heap.size ≤ gb112)); have n5_ := Aside0.mk ((by rw [hg]; exact Nat.ne_of_lt (blk_lt (g := gb111) (o := .cells #[.int .i64 a0_0, .int .i64 a0_1] 39 (0, 0)) (by (with_reducible repeat (first | refine blk_drewN ?_ _ | refine blk_drew ?_ | refine blk_alloc ?_ _)); exact BK111.out)) : gb111 ≠ gb112)); have n6_ := Aside0.mk ((by rw [hg]; exact Nat.ne_of_gt (blk_lt (g := gb111) (o := .cells #[.int .i64 a0_0, .int .i64 a0_1] 39 (0, 0)) (by (with_reducible repeat (first | refine blk_drewN ?_ _ | refine blk_drew ?_ | refine blk_alloc ?_ _)); exact BK111.out)) : gb112 ≠ gb111)); clear BK111; clear HB; have BK111 := n0_; have HB := n1_; have BK112 := n2_; have GW112 := n3_; have GE112 := n4_; have NB111_112 := n5_; have NB112_111 := n6_; clear n0_ n1_ n2_ n3_ n4_ n5_ n6_; clear hb hbox hg))
  have n0_ := Aside0.mk (blk_drew BK111.out)
  have n1_ := Aside0.mk (blk_drew BK112.out)
  have n2_ := Aside0.mk (below_drew1 HB.out)
  clear BK111
  clear BK112
  clear HB
  have BK111 := n0_
  have BK112 := n1_
  have HB := n2_
  clear n0_ n1_ n2_
  refine start_ (n := 12) (S := fun w' => w'.cell? ⟨gb111, 0, none⟩ = some (.int .i64 a0_0) ∧ w'.cell? ⟨gb111, 1, none⟩ = some (.int .i64 a0_1) ∧ w'.cell? ⟨gb112, 0, none⟩ = some (.int .i64 a1_0) ∧ w'.cell? ⟨gb112, 1, none⟩ = some (.int .i64 a1_1)) (ds := []) #[false, false, false, false, false, false, false, false, false, false, false, false] (by kernel_rfl) rfl rfl ⟨(blk_cell BK111.out 0).trans rfl, (blk_cell BK111.out 1).trans rfl, (blk_cell BK112.out 0).trans rfl, (blk_cell BK112.out 1).trans rfl⟩ (fun hHeld => ?_); refine with_tabW impl_Overlap.tab1 impl_Overlap.bits1 (fun HT_ HW_ => ?_)
  generalize w7.drew = w8 at BK111 BK112 HB hHeld ⊢
  refine pure_ (i := 0) (N := some 5) (v := ?_) (a' := ?_) #[true, false, false, false, false, false, false, false, false, false, false, false] rfl rfl (any_of HT_.out (by kernel_rfl)) (fun _ _ _ h => h) (Or.inl ⟨by rfl, ?_⟩) ?_ ?_
  rotate_left
  · intro w'
    go_simp
    with_reducible rfl
  rotate_left
  · simp only [Act.put, List.setIfInBounds_toArray, List.set_cons_zero, List.set_cons_succ, i64_w, i32_w]
    rfl
  refine pure_ (i := 2) (N := some 7) (v := ?_) (a' := ?_) #[true, false, true, false, false, false, false, false, false, false, false, false] rfl rfl (any_of HT_.out (by kernel_rfl)) (fun _ _ _ h => h) (Or.inl ⟨by rfl, ?_⟩) ?_ ?_
  rotate_left
  · intro w'
    go_simp
    with_reducible rfl
  rotate_left
  · simp only [Act.put, List.setIfInBounds_toArray, List.set_cons_zero, List.set_cons_succ, i64_w, i32_w]
    rfl
  refine pure_ (i := 5) (N := some 10) (v := ?_) (a' := ?_) #[true, false, true, false, false, true, false, false, false, false, false, false] rfl rfl (any_of HT_.out (by kernel_rfl)) (fun _ _ _ h => h) (Or.inl ⟨by rfl, ?_⟩) ?_ ?_
  rotate_left
  · intro w'
    go_simp
    with_reducible rfl
  rotate_left
  · simp only [Act.put, List.setIfInBounds_toArray, List.set_cons_zero, List.set_cons_succ, i64_w, i32_w]
    rfl
  refine pure_ (i := 7) (N := some 12) (v := ?_) (a' := ?_) #[true, false, true, false, false, true, false, true, false, false, false, false] rfl rfl (any_of HT_.out (by kernel_rfl)) (fun _ _ _ h => h) (Or.inl ⟨by rfl, ?_⟩) ?_ ?_
  rotate_left
  · intro w'
    go_simp
    with_reducible rfl
  rotate_left
  · simp only [Act.put, List.setIfInBounds_toArray, List.set_cons_zero, List.set_cons_succ, i64_w, i32_w]
    rfl
  refine take_ (i := 1) (N := some 6) (v := ?_) (a' := ?_) #[true, true, true, false, false, true, false, true, false, false, false, false] rfl rfl (take_ofW HT_.out HW_.out (by kernel_rfl)) (fun _ _ _ h => h) (Or.inl ⟨by rfl, ?_⟩) hHeld ?_ ?_
  rotate_left
  · rintro w' ⟨s0, s1, s2, s3⟩
    go_simp
    with_reducible rfl
  rotate_left
  · simp only [Act.put, List.setIfInBounds_toArray, List.set_cons_zero, List.set_cons_succ, i64_w, i32_w]
    rfl
  refine take_ (i := 3) (N := some 8) (v := ?_) (a' := ?_) #[true, true, true, true, false, true, false, true, false, false, false, false] rfl rfl (take_ofW HT_.out HW_.out (by kernel_rfl)) (fun _ _ _ h => h) (Or.inl ⟨by rfl, ?_⟩) hHeld ?_ ?_
  rotate_left
  · rintro w' ⟨s0, s1, s2, s3⟩
    go_simp
    with_reducible rfl
  rotate_left
  · simp only [Act.put, List.setIfInBounds_toArray, List.set_cons_zero, List.set_cons_succ, i64_w, i32_w]
    rfl
  refine take_ (i := 6) (N := some 11) (v := ?_) (a' := ?_) #[true, true, true, true, false, true, true, true, false, false, false, false] rfl rfl (take_ofW HT_.out HW_.out (by kernel_rfl)) (fun _ _ _ h => h) (Or.inl ⟨by rfl, ?_⟩) hHeld ?_ ?_
  rotate_left
  · rintro w' ⟨s0, s1, s2, s3⟩
    go_simp
    with_reducible rfl
  rotate_left
  · simp only [Act.put, List.setIfInBounds_toArray, List.set_cons_zero, List.set_cons_succ, i64_w, i32_w]
    rfl
  refine take_ (i := 8) (N := some 13) (v := ?_) (a' := ?_) #[true, true, true, true, false, true, true, true, true, false, false, false] rfl rfl (take_ofW HT_.out HW_.out (by kernel_rfl)) (fun _ _ _ h => h) (Or.inl ⟨by rfl, ?_⟩) hHeld ?_ ?_
  rotate_left
  · rintro w' ⟨s0, s1, s2, s3⟩
    go_simp
    with_reducible rfl
  rotate_left
  · simp only [Act.put, List.setIfInBounds_toArray, List.set_cons_zero, List.set_cons_succ, i64_w, i32_w]
    rfl
  refine one_ (i := 4) (N := some 9) #[true, true, true, true, true, true, true, true, true, false, false, false] rfl rfl (one_of HT_.out (by kernel_rfl)) (by decide) (fun K hK => ?_)
  refine goes_ Try.func37 (by kernel_rfl) rfl #[.int .i64 a0_0, .int .i64 a0_1] (by rfl) rfl rfl (by (try simp only [List.map_toArray, List.map_cons, List.map_nil]); first | done | rfl | (simp only [List.length_drop, List.length_take]; rfl)) ?_
  with_reducible refine (intervals_NewInterval.calls a0_0 a0_1 t113 t114 _ A3.out).mono ?_
  rintro e w9 ⟨rfl, hb⟩
  refine ⟨_, rfl, ?_⟩
  have n0_ := Aside0.mk (blk_below (g := gb111) (o := .cells #[.int .i64 a0_0, .int .i64 a0_1] 39 (0, 0)) (by (with_reducible repeat (first | refine blk_drewN ?_ _ | refine blk_drew ?_ | refine blk_alloc ?_ _)); exact BK111.out) hb)
  have n1_ := Aside0.mk (blk_below (g := gb112) (o := .cells #[.int .i64 a1_0, .int .i64 a1_1] 39 (0, 0)) (by (with_reducible repeat (first | refine blk_drewN ?_ _ | refine blk_drew ?_ | refine blk_alloc ?_ _)); exact BK112.out) hb)
  have n2_ := Aside0.mk (below_step (by repeat (first | (with_reducible first | exact HB.out | apply below_alloc | apply pw_below_drewN | apply below_drew1 | refine below_set ?_ GE111.out | refine below_set ?_ GE112.out) | exact HB.out)) hb)
  clear BK111
  clear BK112
  clear HB
  have BK111 := n0_
  have BK112 := n1_
  have HB := n2_
  clear n0_ n1_ n2_
  (try clear hb)
  (try clear hb2)
  (try clear hk)
  (try clear hi)
  refine hK.out _ _ ⟨(blk_cell BK111.out 0).trans rfl, (blk_cell BK111.out 1).trans rfl, (blk_cell BK112.out 0).trans rfl, (blk_cell BK112.out 1).trans rfl⟩ (fun hHeld => ?_)
  clear hK K
  refine norm_ (a' := ?_) ?_ ?_
  rotate_left
  · show Act.put _ (some 9) _ = _
    simp only [Act.put, List.setIfInBounds_toArray, List.set_cons_zero, List.set_cons_succ, i64_w, i32_w]
    rfl
  refine one_ (i := 9) (N := some 14) #[true, true, true, true, true, true, true, true, true, true, false, false] rfl rfl (one_of HT_.out (by kernel_rfl)) (by decide) (fun K hK => ?_)
  refine goes_ Try.func37 (by kernel_rfl) rfl #[.int .i64 a1_0, .int .i64 a1_1] (by rfl) rfl rfl (by (try simp only [List.map_toArray, List.map_cons, List.map_nil]); first | done | rfl | (simp only [List.length_drop, List.length_take]; rfl)) ?_
  with_reducible refine (intervals_NewInterval.calls a1_0 a1_1 t115 t116 _ A4.out).mono ?_
  rintro e w10 ⟨rfl, hb⟩
  refine ⟨_, rfl, ?_⟩
  have n0_ := Aside0.mk (blk_below (g := gb111) (o := .cells #[.int .i64 a0_0, .int .i64 a0_1] 39 (0, 0)) (by (with_reducible repeat (first | refine blk_drewN ?_ _ | refine blk_drew ?_ | refine blk_alloc ?_ _)); exact BK111.out) hb)
  have n1_ := Aside0.mk (blk_below (g := gb112) (o := .cells #[.int .i64 a1_0, .int .i64 a1_1] 39 (0, 0)) (by (with_reducible repeat (first | refine blk_drewN ?_ _ | refine blk_drew ?_ | refine blk_alloc ?_ _)); exact BK112.out) hb)
  have n2_ := Aside0.mk (below_step (by repeat (first | (with_reducible first | exact HB.out | apply below_alloc | apply pw_below_drewN | apply below_drew1 | refine below_set ?_ GE111.out | refine below_set ?_ GE112.out) | exact HB.out)) hb)
  clear BK111
  clear BK112
  clear HB
  have BK111 := n0_
  have BK112 := n1_
  have HB := n2_
  clear n0_ n1_ n2_
  (try clear hb)
  (try clear hb2)
  (try clear hk)
  (try clear hi)
  refine hK.out _ _ ⟨(blk_cell BK111.out 0).trans rfl, (blk_cell BK111.out 1).trans rfl, (blk_cell BK112.out 0).trans rfl, (blk_cell BK112.out 1).trans rfl⟩ (fun hHeld => ?_)
  clear hK K
  refine norm_ (a' := ?_) ?_ ?_
  rotate_left
  · show Act.put _ (some 14) _ = _
    simp only [Act.put, List.setIfInBounds_toArray, List.set_cons_zero, List.set_cons_succ, i64_w, i32_w]
    rfl
  refine one_ (i := 10) (N := some 15) #[true, true, true, true, true, true, true, true, true, true, true, false] rfl rfl (one_of HT_.out (by kernel_rfl)) (by decide) (fun K hK => ?_)
  refine goes_ Try.func38 (by kernel_rfl) rfl #[.agg #[.int .i64 t113, .int .i64 t114], .agg #[.int .i64 t115, .int .i64 t116]] (by rfl) rfl rfl (by (try simp only [List.map_toArray, List.map_cons, List.map_nil]); first | done | rfl | (simp only [List.length_drop, List.length_take]; rfl)) ?_
  with_reducible refine (intervals_Interval_Overlaps.calls t113 t114 t115 t116 t117 _ A5.out).mono ?_
  rintro e w11 ⟨rfl, hb⟩
  refine ⟨_, rfl, ?_⟩
  have n0_ := Aside0.mk (blk_below (g := gb111) (o := .cells #[.int .i64 a0_0, .int .i64 a0_1] 39 (0, 0)) (by (with_reducible repeat (first | refine blk_drewN ?_ _ | refine blk_drew ?_ | refine blk_alloc ?_ _)); exact BK111.out) hb)
  have n1_ := Aside0.mk (blk_below (g := gb112) (o := .cells #[.int .i64 a1_0, .int .i64 a1_1] 39 (0, 0)) (by (with_reducible repeat (first | refine blk_drewN ?_ _ | refine blk_drew ?_ | refine blk_alloc ?_ _)); exact BK112.out) hb)
  have n2_ := Aside0.mk (below_step (by repeat (first | (with_reducible first | exact HB.out | apply below_alloc | apply pw_below_drewN | apply below_drew1 | refine below_set ?_ GE111.out | refine below_set ?_ GE112.out) | exact HB.out)) hb)
  clear BK111
  clear BK112
  clear HB
  have BK111 := n0_
  have BK112 := n1_
  have HB := n2_
  clear n0_ n1_ n2_
  (try clear hb)
  (try clear hb2)
  (try clear hk)
  (try clear hi)
  refine hK.out _ _ ⟨(blk_cell BK111.out 0).trans rfl, (blk_cell BK111.out 1).trans rfl, (blk_cell BK112.out 0).trans rfl, (blk_cell BK112.out 1).trans rfl⟩ (fun hHeld => ?_)
  clear hK K
  refine norm_ (a' := ?_) ?_ ?_
  rotate_left
  · show Act.put _ (some 15) _ = _
    simp only [Act.put, List.setIfInBounds_toArray, List.set_cons_zero, List.set_cons_succ, i64_w, i32_w]
    rfl
  refine pure_ (i := 11) (N := some 4) (v := ?_) (a' := ?_) #[true, true, true, true, true, true, true, true, true, true, true, true] rfl rfl (any_of HT_.out (by kernel_rfl)) (fun _ _ _ h => h) (Or.inl ⟨by rfl, ?_⟩) ?_ ?_
  rotate_left
  · intro w'
    go_simp
    with_reducible rfl
  rotate_left
  · simp only [Act.put, List.setIfInBounds_toArray, List.set_cons_zero, List.set_cons_succ, i64_w, i32_w]
    rfl
  refine done_ (done_of HT_.out (by kernel_rfl)) ?_
  try go_wp2
  go_ret
  exact ⟨by first | rfl | (simp [errW_none, errW_some] <;> rfl) | (simp [*, errW_none, errW_some] <;> rfl), by repeat (first | (with_reducible first | exact HB.out | apply below_alloc | apply pw_below_drewN | apply below_drew1 | refine below_set ?_ GE111.out | refine below_set ?_ GE112.out) | exact HB.out)⟩

/-! ### laws_ivWorks: function 14 -/
def laws_ivWorks.f  : Option (Bool) := (impl_Overlap.f 1 5 4 9).bind fun t118 => (some t118)
set_option maxHeartbeats 8000000 in
set_option maxRecDepth 100000 in
theorem laws_ivWorks.calls  (r : Bool) (w : World) (h : laws_ivWorks.f  = some r) :
    Calls Try.prog 14 #[] w fun e w' => e = .returned (.bool r) ∧ Below w.heap.size w w' := by
  have hu39 := Try.underlying39
  have HB := Aside0.mk (Below.refl w.heap.size w)
  have H : ((impl_Overlap.f 1 5 4 9).bind fun t118 => (some t118)) = some r := h
  clear h
  replace H := Option.bind_eq_some_iff.mp H
  obtain ⟨t118, A10, H⟩ := H
  replace H : (some t118) = some r := H
  have A1 := Aside0.mk A10
  clear A10
  obtain rfl := Option.some.inj H
  go_enter Try.func14, Try.ntmps14
  go_wp2_with (first | ((with_reducible refine gate_callee (f := 24) rfl ?_); refine goesL_ (some 3) rfl rfl Try.func24 (by kernel_rfl) rfl #[.agg #[.int .i64 1, .int .i64 5], .agg #[.int .i64 4, .int .i64 9]] rfl (by (try simp only [List.map_toArray, List.map_cons, List.map_nil]); first | done | rfl | (simp only [List.length_drop, List.length_take]; rfl)) ?_; (with_reducible refine (impl_Overlap.calls 1 5 4 9 t118 _ A1.out).mono ?_); rintro e w2 ⟨rfl, hb⟩; refine ⟨_, rfl, ?_⟩; have n0_ := Aside0.mk (below_step (by repeat (first | (with_reducible first | exact HB.out | apply below_alloc | apply pw_below_drewN | apply below_drew1) | exact HB.out)) hb); clear HB; have HB := n0_; clear n0_; (try clear hb); (try clear hb2); (try clear hk); (try clear hi)))
  go_ret
  exact ⟨by first | rfl | (simp [errW_none, errW_some] <;> rfl) | (simp [*, errW_none, errW_some] <;> rfl), by repeat (first | (with_reducible first | exact HB.out | apply below_alloc | apply pw_below_drewN | apply below_drew1) | exact HB.out)⟩

/-! ### impl_in: function 28 -/
def impl_in.l0 : Nat → List (S63) → List (S39) → Int → Int → Option ((List (S63)))
  | 0, _, _, _, _ => none
  | k + 1, x3, x6, x7, x8 => if x8 < x7 then (if 0 ≤ x8 then (if x8 < (x6.length : Int) then ((intervals_NewInterval.f ((rd_T39 x6 x8).f0) ((rd_T39 x6 x8).f1)).bind fun bt121 => (if x3.length < 8796093022208 then (impl_in.l0 k (x3 ++ [(⟨bt121.1, bt121.2⟩ : S63)]) x6 x7 (wrap64 (x8 + 1))) else (none))) else (none)) else (none)) else (some x3)
def impl_in.f (k : Nat) (l0 : List (S39)) : Option ((List (S63))) := impl_in.l0 k ([] : List (S63)) l0 (l0.length : Int) 0
theorem impl_in.mono_l : ∀ k, (∀ y0 y1 y2 y3, LeO (impl_in.l0 k y0 y1 y2 y3) (impl_in.l0 (k + 1) y0 y1 y2 y3))
  | 0 => fun _ _ _ _ r h => by simp [impl_in.l0] at h
  | k + 1 => by
    have ih0 := impl_in.mono_l k
    · intro y0 y1 y2 y3
      unfold impl_in.l0
      repeat' first
      | (with_reducible exact ih0 _ _ _ _)
      | (with_reducible exact LeO.refl _)
      | (with_reducible exact LeO.none _)
      | (with_reducible refine LeO.ite ?_ ?_)
      | (with_reducible refine LeO.bind ?_ (fun _ => ?_))
      | exact ih0 _ _ _ _
      | exact LeO.none _
      | refine LeO.ite ?_ ?_
      | refine LeO.bind ?_ (fun _ => ?_)
theorem impl_in.mono : ∀ a0 k, LeO (impl_in.f k a0) (impl_in.f (k + 1) a0) := by
  intro a0 k
  have ih0 := impl_in.mono_l k
  unfold impl_in.f
  repeat' first
      | (with_reducible exact ih0 _ _ _ _)
      | (with_reducible exact LeO.refl _)
      | (with_reducible exact LeO.none _)
      | (with_reducible refine LeO.ite ?_ ?_)
      | (with_reducible refine LeO.bind ?_ (fun _ => ?_))
      | exact ih0 _ _ _ _
      | exact LeO.none _
      | refine LeO.ite ?_ ?_
      | refine LeO.bind ?_ (fun _ => ?_)
set_option maxHeartbeats 8000000 in
set_option maxRecDepth 100000 in
theorem impl_in.calls (k : Nat) (A0 : Option Addr) (c0 : Nat) (l0 : List (S39)) (r : List (S63)) (w : World) (hr0 : Kd.C k39 w A0 l0.length l0) (hc0 : l0.length ≤ c0) (h : impl_in.f k l0 = some r) :
    Calls Try.prog 28 #[.slice A0 l0.length c0] w fun e w' => ∃ v0_ : Value, e = .returned (v0_) ∧ Kd.R k63 63 w' w.heap.size (fun _ => True) v0_ r ∧ Below w.heap.size w w' := by
  have hu39 := Try.underlying39
  have HR0 := Aside0.mk hr0
  have HC0 := Aside0.mk hc0
  clear hr0 hc0
  have HB := Aside0.mk (Below.refl w.heap.size w)
  have H : (impl_in.l0 k ([] : List (S63)) l0 (l0.length : Int) 0) = some r := h
  clear h
  have H' := Aside0.mk H
  clear H
  go_enter Try.func28, Try.ntmps28
  go_wp2
  go_loopg [3, 8] k (fun kq v3 v8 w' => ∃ (x3_1 : List (S63)) (x8_1 : Int), v8 = .int .i64 x8_1 ∧ Aside0 (impl_in.l0 kq x3_1 l0 (l0.length : Int) x8_1 = some r) ∧ Aside0 (kq ≤ k) ∧ Aside0 (Kd.R k63 63 w' w.heap.size (fun _ => True) v3 x3_1) ∧ Aside0 (Below w.heap.size w w'))
  case atStart => exact ⟨(([] : List (S63))), (0), (by first | rfl | (simp; done) | (simp [*]; done)), H', ⟨Nat.le_refl _⟩, ⟨by first | exact Kd.R_nil _ _ _ _ _ | exact Kd.N_nil _ _ _ _ _ | exact Kd.V_nil _ _ _ _ _ | exact Kd.Q_nil _ _ _ _ _ | exact Kd.S_nil _ _ _ _ _⟩, ⟨by repeat (first | (with_reducible first | exact HB.out | apply below_alloc | apply pw_below_drewN | apply below_drew1) | exact HB.out)⟩⟩
  case round =>
    clear H'
    obtain ⟨x3_1, x8_1, rfl, HA, HK1, HO_3, HB⟩ := hrel
    cases gk with
    | zero => exact absurd HA.out (by simp [impl_in.l0])
    | succ k1 =>
      have H := HA.out
      clear HA
      simp only [impl_in.l0] at H
      by_cases c2 : x8_1 < (l0.length : Int)
      · rw [if_pos c2] at H
        have c2b0 : decide (x8_1 < (l0.length : Int)) = true := decide_eq_true c2
        clear c2
        by_cases c3 : 0 ≤ x8_1
        · rw [if_pos c3] at H
          have c3b0 : decide (0 ≤ x8_1) = true := decide_eq_true c3
          clear c3
          by_cases c4 : x8_1 < (l0.length : Int)
          · rw [if_pos c4] at H
            have c4b0 : decide (x8_1 < (l0.length : Int)) = true := decide_eq_true c4
            clear c4
            replace H := Option.bind_eq_some_iff.mp H
            obtain ⟨⟨t121, t122⟩, A50, H⟩ := H
            replace H : (if x3_1.length < 8796093022208 then (impl_in.l0 k1 (x3_1 ++ [(⟨t121, t122⟩ : S63)]) l0 (l0.length : Int) (wrap64 (x8_1 + 1))) else (none)) = some r := H
            have A5 := Aside0.mk A50
            clear A50
            by_cases c6 : x3_1.length < 8796093022208
            · rw [if_pos c6] at H
              have LMc6 := Aside0.mk c6
              clear c6
              obtain ⟨y123, hy123⟩ : ∃ y_ : List (S63), y_ = (x3_1 ++ [(⟨t121, t122⟩ : S63)]) := ⟨_, rfl⟩
              replace H : (impl_in.l0 k1 y123 l0 (l0.length : Int) (wrap64 (x8_1 + 1))) = some r := by first | (rw [hy123]; with_reducible exact H) | (have H2_ := (Option.bind_some _ _).symm.trans H; rw [hy123]; with_reducible exact H2_) | (have H2_ := (Option.bind_some _ _).symm.trans H; with_reducible exact H2_) | with_reducible exact H | (rw [hy123]; exact H) | exact H
              have Ny123 := Aside0.mk hy123
              clear hy123
              have H' := Aside0.mk H
              clear H
              have p119 : 0 ≤ (x8_1 : Int) := of_decide_eq_true (by first | (with_reducible assumption) | assumption)
              have q119 : x8_1 < (l0.length : Int) := of_decide_eq_true (by first | (with_reducible assumption) | assumption)
              obtain ⟨ad119, e119, hx119_0, hx119_1⟩ := at_T39 HR0.out x8_1 p119 q119
              cases e119
              replace hx119_0 := (HB.out.cell (World.block_lt_of_cell? w _ hx119_0)).trans hx119_0
              replace hx119_1 := (HB.out.cell (World.block_lt_of_cell? w _ hx119_1)).trans hx119_1
              replace p119 := eq_true p119
              replace q119 := eq_true q119
              go_wp2_with (first | ((with_reducible refine gate_dst (N := 5) rfl ?_); refine box_event ?hg (N := 5) ?hd (cs := #[.int .i64 0, .int .i64 0]) (t := 39) ?hr ?_; (case hd => rfl); (case hg => rfl); (case hr => first | (go_simp; done) | (go_simp; rfl)); intro gb120 hg w7 hbox hb; have n0_ := Aside0.mk (Kd.R_below (by (with_reducible repeat (first | apply Kd.R_alloc | apply Kd.R_drewN | apply Kd.R_drew)); exact HO_3.out) hb); have n1_ := Aside0.mk (below_step (by repeat (first | (with_reducible first | exact HB.out | apply below_alloc | apply pw_below_drewN | apply below_drew1) | exact HB.out)) hb); have n2_ := Aside0.mk (hbox); have n3_ := Aside0.mk ((by rw [hg]; exact (below_size (by repeat (first | (with_reducible first | exact HB.out | apply below_alloc | apply pw_below_drewN | apply below_drew1) | exact HB.out))) : w.heap.size ≤ gb120)); have n4_ := Aside0.mk ((by rw [hg]; exact (below_size (by repeat (first | (with_reducible first | exact HB.out | apply below_alloc | apply pw_below_drewN | apply below_drew1) | exact HB.out))) : w.heap.size ≤ gb120)); clear HO_3; clear HB; have HO_3 := n0_; have HB := n1_; have BK120 := n2_; have GW120 := n3_; have GE120 := n4_; clear n0_ n1_ n2_ n3_ n4_; clear hb hbox hg; have hcz8_0 : w7.cell? ⟨gb120, 0, none⟩ = some (.int .i64 0) := (blk_cell BK120.out 0).trans rfl; have hcz8_1 : w7.cell? ⟨gb120, 1, none⟩ = some (.int .i64 0) := (blk_cell BK120.out 1).trans rfl; have hfz8_0 := blk_frozen BK120.out 0; have hfz8_1 := blk_frozen BK120.out 1) | ((with_reducible refine gate_callee (f := 37) rfl ?_); refine goesL_ (some 17) rfl rfl Try.func37 (by kernel_rfl) rfl #[.int .i64 ((rd_T39 l0 x8_1).f0), .int .i64 ((rd_T39 l0 x8_1).f1)] rfl (by (try simp only [List.map_toArray, List.map_cons, List.map_nil]); first | done | rfl | (simp only [List.length_drop, List.length_take]; rfl)) ?_; (with_reducible refine (intervals_NewInterval.calls ((rd_T39 l0 x8_1).f0) ((rd_T39 l0 x8_1).f1) t121 t122 _ A5.out).mono ?_); rintro e w9 ⟨rfl, hb⟩; refine ⟨_, rfl, ?_⟩; have n0_ := Aside0.mk (Kd.R_below (by (with_reducible repeat (first | apply Kd.R_alloc | apply Kd.R_drewN | apply Kd.R_drew)); exact (Kd.R_mono (Kd.R_far (p := ⟨gb120, 1, none⟩) (Kd.R_far (p := ⟨gb120, 0, none⟩) (Kd.R_types HO_3.out BK120.out (by decide)) (fun _ hk => hk.2) (.int .i64 ((rd_T39 l0 x8_1).f0))) (fun _ hk => hk.2) (.int .i64 ((rd_T39 l0 x8_1).f1))) (fun _ h_ => h_.1))) hb); have n1_ := Aside0.mk (blk_below (g := gb120) (o := .cells #[.int .i64 ((rd_T39 l0 x8_1).f0), .int .i64 ((rd_T39 l0 x8_1).f1)] 39 (0, 0)) (by (with_reducible repeat (first | refine blk_drewN ?_ _ | refine blk_drew ?_ | refine blk_alloc ?_ _)); refine blk_put (cs := #[.int .i64 ((rd_T39 l0 x8_1).f0), .int .i64 0]) ?_ 1 _ rfl; (with_reducible repeat (first | refine blk_drewN ?_ _ | refine blk_drew ?_ | refine blk_alloc ?_ _)); refine blk_put (cs := #[.int .i64 0, .int .i64 0]) ?_ 0 _ rfl; (with_reducible repeat (first | refine blk_drewN ?_ _ | refine blk_drew ?_ | refine blk_alloc ?_ _)); exact BK120.out) hb); have n2_ := Aside0.mk (below_step (by repeat (first | (with_reducible first | exact HB.out | apply below_alloc | apply pw_below_drewN | apply below_drew1 | refine below_set ?_ GE120.out) | exact HB.out)) hb); clear HO_3; clear BK120; clear HB; have HO_3 := n0_; have BK120 := n1_; have HB := n2_; clear n0_ n1_ n2_; (try clear hb); (try clear hb2); (try clear hk); (try clear hi)) | ((with_reducible refine gate_builtin (b := .append) (xs := #[.tmp 12, .tmp 18]) rfl ?_); at_builtin; refine Kd.R_append k63 (w0 := w) w.heap.size rfl (.tmp 12) (.tmp 18) 49 63 (.agg #[(.int .i64 0), (.int .i64 0)]) 16 rfl Try.underlying49 info63 rfl (by decide) (by omega) u3 x3_1 (⟨t121, t122⟩ : S63) [.int .i64 t121, .int .i64 t122] (fun _ => True) (fun _ => False) rfl rfl ?aP (fun _ hk => hk.elim) ?aF ?aO ?aB ?aS ?aL ?_; (case aP => exact k63_mkM _ _ _ (⟨t121, t122⟩ : S63)); (case aB => exact (by repeat (first | (with_reducible first | exact HB.out | apply below_alloc | apply pw_below_drewN | apply below_drew1 | refine below_set ?_ GE120.out) | exact HB.out))); (case aF => exact (fun _ _ => trivial)); (case aO => exact (by (with_reducible repeat (first | apply Kd.R_alloc | apply Kd.R_drewN | apply Kd.R_drew)); exact HO_3.out)); (case aS => exact (below_size (by repeat (first | (with_reducible first | exact HB.out | apply below_alloc | apply pw_below_drewN | apply below_drew1 | refine below_set ?_ GE120.out) | exact HB.out)))); (case aL => have := LMc6.out; omega); intro v124 w10 ho hb hg hat; rw [← Ny123.out] at ho; have n0_ := Aside0.mk (blk_grown (g := gb120) (o := .cells #[.int .i64 ((rd_T39 l0 x8_1).f0), .int .i64 ((rd_T39 l0 x8_1).f1)] 39 (0, 0)) (by (with_reducible repeat (first | refine blk_drewN ?_ _ | refine blk_drew ?_ | refine blk_alloc ?_ _)); exact BK120.out) hg (Kd.R_ne HO_3.out BK120.out (by decide))); have n1_ := Aside0.mk (hb); have n2_ := Aside0.mk (ho); clear BK120; clear HB; clear HO_3; have BK120 := n0_; have HB := n1_; have HO125 := n2_; clear n0_ n1_ n2_; clear ho hb hg hat))
              go_roundg k1
              case measure => have := HK1.out; omega
              case rel => exact ⟨(y123), (wrap64 (x8_1 + 1)), (by first | rfl | (simp; done) | (simp [*]; done)), H', ⟨by have := HK1.out; omega⟩, ⟨by (with_reducible repeat (first | apply Kd.R_alloc | apply Kd.R_drewN | apply Kd.R_drew)); exact HO125.out⟩, ⟨by repeat (first | (with_reducible first | exact HB.out | apply below_alloc | apply pw_below_drewN | apply below_drew1 | refine below_set ?_ GE120.out) | exact HB.out)⟩⟩
            · rw [if_neg c6] at H
              exact absurd H (by simp)
          · rw [if_neg c4] at H
            exact absurd H (by simp)
        · rw [if_neg c3] at H
          exact absurd H (by simp)
      · rw [if_neg c2] at H
        have c2b0 : decide (x8_1 < (l0.length : Int)) = false := decide_eq_false c2
        clear c2
        obtain rfl := Option.some.inj H
        go_wp2
        go_ret
        exact ⟨_, by first | rfl | (simp [errW_none, errW_some] <;> rfl) | (simp [*, errW_none, errW_some] <;> rfl), by (with_reducible repeat (first | apply Kd.R_alloc | apply Kd.R_drewN | apply Kd.R_drew)); exact HO_3.out, by repeat (first | (with_reducible first | exact HB.out | apply below_alloc | apply pw_below_drewN | apply below_drew1) | exact HB.out)⟩

/-! ### intervals_Interval_Bounds: function 41 -/
def intervals_Interval_Bounds.f (a0_0 : Int) (a0_1 : Int) : Option (Int × Int) := some (a0_0, a0_1)
set_option maxHeartbeats 8000000 in
set_option maxRecDepth 100000 in
theorem intervals_Interval_Bounds.calls (a0_0 : Int) (a0_1 : Int) (r1 : Int) (r2 : Int) (w : World) (h : intervals_Interval_Bounds.f a0_0 a0_1 = some (r1, r2)) :
    Calls Try.prog 41 #[.agg #[.int .i64 a0_0, .int .i64 a0_1]] w fun e w' => e = .returned (.tuple #[.int .i64 r1, .int .i64 r2]) ∧ Below w.heap.size w w' := by
  have hu63 := Try.underlying63
  have HB := Aside0.mk (Below.refl w.heap.size w)
  have H : (some (a0_0, a0_1)) = some (r1, r2) := h
  clear h
  simp only [Option.some.injEq, Prod.mk.injEq] at H
  obtain ⟨rfl, rfl⟩ := H
  go_enter Try.func41, Try.ntmps41
  go_wp2_with (first | ((with_reducible refine gate_dst (N := 1) rfl ?_); refine box_event ?hg (N := 1) ?hd (cs := #[.int .i64 a0_0, .int .i64 a0_1]) (t := 63) ?hr ?_; (case hd => rfl); (case hg => rfl); (case hr => first | (go_simp; done) | (go_simp; rfl)); intro gb126 hg w2 hbox hb; have n0_ := Aside0.mk (below_step (by repeat (first | (with_reducible first | exact HB.out | apply below_alloc | apply pw_below_drewN | apply below_drew1) | exact HB.out)) hb); have n1_ := Aside0.mk (hbox); have n2_ := Aside0.mk ((by rw [hg]; exact (below_size (by repeat (first | (with_reducible first | exact HB.out | apply below_alloc | apply pw_below_drewN | apply below_drew1) | exact HB.out))) : w.heap.size ≤ gb126)); have n3_ := Aside0.mk ((by rw [hg]; exact (below_size (by repeat (first | (with_reducible first | exact HB.out | apply below_alloc | apply pw_below_drewN | apply below_drew1) | exact HB.out))) : w.heap.size ≤ gb126)); clear HB; have HB := n0_; have BK126 := n1_; have GW126 := n2_; have GE126 := n3_; clear n0_ n1_ n2_ n3_; clear hb hbox hg; have hcz3_0 : w2.cell? ⟨gb126, 0, none⟩ = some (.int .i64 a0_0) := (blk_cell BK126.out 0).trans rfl; have hcz3_1 : w2.cell? ⟨gb126, 1, none⟩ = some (.int .i64 a0_1) := (blk_cell BK126.out 1).trans rfl; have hfz3_0 := blk_frozen BK126.out 0; have hfz3_1 := blk_frozen BK126.out 1))
  repeat (go_quiet (first | ((with_reducible refine gate_dst (N := 1) rfl ?_); refine box_event ?hg (N := 1) ?hd (cs := #[.int .i64 a0_0, .int .i64 a0_1]) (t := 63) ?hr ?_; (case hd => rfl); (case hg => rfl); (case hr => first | (go_simp; done) | (go_simp; rfl)); intro gb126 hg w2 hbox hb; have n0_ := Aside0.mk (below_step (by repeat (first | (with_reducible first | exact HB.out | apply below_alloc | apply pw_below_drewN | apply below_drew1) | exact HB.out)) hb); have n1_ := Aside0.mk (hbox); have n2_ := Aside0.mk ((by rw [hg]; exact (below_size (by repeat (first | (with_reducible first | exact HB.out | apply below_alloc | apply pw_below_drewN | apply below_drew1) | exact HB.out))) : w.heap.size ≤ gb126)); have n3_ := Aside0.mk ((by rw [hg]; exact (below_size (by repeat (first | (with_reducible first | exact HB.out | apply below_alloc | apply pw_below_drewN | apply below_drew1) | exact HB.out))) : w.heap.size ≤ gb126)); clear HB; have HB := n0_; have BK126 := n1_; have GW126 := n2_; have GE126 := n3_; clear n0_ n1_ n2_ n3_; clear hb hbox hg; have hcz3_0 : w2.cell? ⟨gb126, 0, none⟩ = some (.int .i64 a0_0) := (blk_cell BK126.out 0).trans rfl; have hcz3_1 : w2.cell? ⟨gb126, 1, none⟩ = some (.int .i64 a0_1) := (blk_cell BK126.out 1).trans rfl; have hfz3_0 := blk_frozen BK126.out 0; have hfz3_1 := blk_frozen BK126.out 1)); try go_wp2_with (first | ((with_reducible refine gate_dst (N := 1) rfl ?_); refine box_event ?hg (N := 1) ?hd (cs := #[.int .i64 a0_0, .int .i64 a0_1]) (t := 63) ?hr ?_; (case hd => rfl); (case hg => rfl); (case hr => first | (go_simp; done) | (go_simp; rfl)); intro gb126 hg w2 hbox hb; have n0_ := Aside0.mk (below_step (by repeat (first | (with_reducible first | exact HB.out | apply below_alloc | apply pw_below_drewN | apply below_drew1) | exact HB.out)) hb); have n1_ := Aside0.mk (hbox); have n2_ := Aside0.mk ((by rw [hg]; exact (below_size (by repeat (first | (with_reducible first | exact HB.out | apply below_alloc | apply pw_below_drewN | apply below_drew1) | exact HB.out))) : w.heap.size ≤ gb126)); have n3_ := Aside0.mk ((by rw [hg]; exact (below_size (by repeat (first | (with_reducible first | exact HB.out | apply below_alloc | apply pw_below_drewN | apply below_drew1) | exact HB.out))) : w.heap.size ≤ gb126)); clear HB; have HB := n0_; have BK126 := n1_; have GW126 := n2_; have GE126 := n3_; clear n0_ n1_ n2_ n3_; clear hb hbox hg; have hcz3_0 : w2.cell? ⟨gb126, 0, none⟩ = some (.int .i64 a0_0) := (blk_cell BK126.out 0).trans rfl; have hcz3_1 : w2.cell? ⟨gb126, 1, none⟩ = some (.int .i64 a0_1) := (blk_cell BK126.out 1).trans rfl; have hfz3_0 := blk_frozen BK126.out 0; have hfz3_1 := blk_frozen BK126.out 1)))
  go_ret2
  exact ⟨by first | rfl | (simp [errW_none, errW_some] <;> rfl) | (simp [*, errW_none, errW_some] <;> rfl), by repeat (first | (with_reducible first | exact HB.out | apply below_alloc | apply pw_below_drewN | apply below_drew1 | refine below_set ?_ GE126.out) | exact HB.out)⟩

/-! ### impl_out: function 29 -/
def impl_out.l0 : Nat → List (S39) → List (S63) → Int → Int → Option ((List (S39)))
  | 0, _, _, _, _ => none
  | k + 1, x3, x8, x9, x10 => if x10 < x9 then (if 0 ≤ x10 then (if x10 < (x8.length : Int) then ((intervals_Interval_Bounds.f ((rd_T63 x8 x10).f0) ((rd_T63 x8 x10).f1)).bind fun bt129 => (if x3.length < 8796093022208 then (impl_out.l0 k (x3 ++ [(⟨bt129.1, bt129.2⟩ : S39)]) x8 x9 (wrap64 (x10 + 1))) else (none))) else (none)) else (none)) else (some x3)
def impl_out.f (k : Nat) (l0 : List (S63)) : Option ((List (S39))) := impl_out.l0 k ([] : List (S39)) l0 (l0.length : Int) 0
theorem impl_out.mono_l : ∀ k, (∀ y0 y1 y2 y3, LeO (impl_out.l0 k y0 y1 y2 y3) (impl_out.l0 (k + 1) y0 y1 y2 y3))
  | 0 => fun _ _ _ _ r h => by simp [impl_out.l0] at h
  | k + 1 => by
    have ih0 := impl_out.mono_l k
    · intro y0 y1 y2 y3
      unfold impl_out.l0
      repeat' first
      | (with_reducible exact ih0 _ _ _ _)
      | (with_reducible exact LeO.refl _)
      | (with_reducible exact LeO.none _)
      | (with_reducible refine LeO.ite ?_ ?_)
      | (with_reducible refine LeO.bind ?_ (fun _ => ?_))
      | exact ih0 _ _ _ _
      | exact LeO.none _
      | refine LeO.ite ?_ ?_
      | refine LeO.bind ?_ (fun _ => ?_)
theorem impl_out.mono : ∀ a0 k, LeO (impl_out.f k a0) (impl_out.f (k + 1) a0) := by
  intro a0 k
  have ih0 := impl_out.mono_l k
  unfold impl_out.f
  repeat' first
      | (with_reducible exact ih0 _ _ _ _)
      | (with_reducible exact LeO.refl _)
      | (with_reducible exact LeO.none _)
      | (with_reducible refine LeO.ite ?_ ?_)
      | (with_reducible refine LeO.bind ?_ (fun _ => ?_))
      | exact ih0 _ _ _ _
      | exact LeO.none _
      | refine LeO.ite ?_ ?_
      | refine LeO.bind ?_ (fun _ => ?_)
set_option maxHeartbeats 8000000 in
set_option maxRecDepth 100000 in
theorem impl_out.calls (k : Nat) (A0 : Option Addr) (c0 : Nat) (l0 : List (S63)) (r : List (S39)) (w : World) (hr0 : Kd.C k63 w A0 l0.length l0) (hc0 : l0.length ≤ c0) (h : impl_out.f k l0 = some r) :
    Calls Try.prog 29 #[.slice A0 l0.length c0] w fun e w' => ∃ v0_ : Value, e = .returned (v0_) ∧ Kd.R k39 39 w' w.heap.size (fun _ => True) v0_ r ∧ Below w.heap.size w w' := by
  have hu63 := Try.underlying63
  have hu39 := Try.underlying39
  have HR0 := Aside0.mk hr0
  have HC0 := Aside0.mk hc0
  clear hr0 hc0
  have HB := Aside0.mk (Below.refl w.heap.size w)
  have H : (impl_out.l0 k ([] : List (S39)) l0 (l0.length : Int) 0) = some r := h
  clear h
  have H' := Aside0.mk H
  clear H
  go_enter Try.func29, Try.ntmps29
  go_wp2
  go_loopg [3, 10] k (fun kq v3 v10 w' => ∃ (x3_1 : List (S39)) (x10_1 : Int), v10 = .int .i64 x10_1 ∧ Aside0 (impl_out.l0 kq x3_1 l0 (l0.length : Int) x10_1 = some r) ∧ Aside0 (kq ≤ k) ∧ Aside0 (Kd.R k39 39 w' w.heap.size (fun _ => True) v3 x3_1) ∧ Aside0 (Below w.heap.size w w'))
  case atStart => exact ⟨(([] : List (S39))), (0), (by first | rfl | (simp; done) | (simp [*]; done)), H', ⟨Nat.le_refl _⟩, ⟨by first | exact Kd.R_nil _ _ _ _ _ | exact Kd.N_nil _ _ _ _ _ | exact Kd.V_nil _ _ _ _ _ | exact Kd.Q_nil _ _ _ _ _ | exact Kd.S_nil _ _ _ _ _⟩, ⟨by repeat (first | (with_reducible first | exact HB.out | apply below_alloc | apply pw_below_drewN | apply below_drew1) | exact HB.out)⟩⟩
  case round =>
    clear H'
    obtain ⟨x3_1, x10_1, rfl, HA, HK1, HO_3, HB⟩ := hrel
    cases gk with
    | zero => exact absurd HA.out (by simp [impl_out.l0])
    | succ k1 =>
      have H := HA.out
      clear HA
      simp only [impl_out.l0] at H
      by_cases c2 : x10_1 < (l0.length : Int)
      · rw [if_pos c2] at H
        have c2b0 : decide (x10_1 < (l0.length : Int)) = true := decide_eq_true c2
        clear c2
        by_cases c3 : 0 ≤ x10_1
        · rw [if_pos c3] at H
          have c3b0 : decide (0 ≤ x10_1) = true := decide_eq_true c3
          clear c3
          by_cases c4 : x10_1 < (l0.length : Int)
          · rw [if_pos c4] at H
            have c4b0 : decide (x10_1 < (l0.length : Int)) = true := decide_eq_true c4
            clear c4
            replace H := Option.bind_eq_some_iff.mp H
            obtain ⟨⟨t129, t130⟩, A50, H⟩ := H
            replace H : (if x3_1.length < 8796093022208 then (impl_out.l0 k1 (x3_1 ++ [(⟨t129, t130⟩ : S39)]) l0 (l0.length : Int) (wrap64 (x10_1 + 1))) else (none)) = some r := H
            have A5 := Aside0.mk A50
            clear A50
            by_cases c6 : x3_1.length < 8796093022208
            · rw [if_pos c6] at H
              have LMc6 := Aside0.mk c6
              clear c6
              obtain ⟨y131, hy131⟩ : ∃ y_ : List (S39), y_ = (x3_1 ++ [(⟨t129, t130⟩ : S39)]) := ⟨_, rfl⟩
              replace H : (impl_out.l0 k1 y131 l0 (l0.length : Int) (wrap64 (x10_1 + 1))) = some r := by first | (rw [hy131]; with_reducible exact H) | (have H2_ := (Option.bind_some _ _).symm.trans H; rw [hy131]; with_reducible exact H2_) | (have H2_ := (Option.bind_some _ _).symm.trans H; with_reducible exact H2_) | with_reducible exact H | (rw [hy131]; exact H) | exact H
              have Ny131 := Aside0.mk hy131
              clear hy131
              have H' := Aside0.mk H
              clear H
              have p127 : 0 ≤ (x10_1 : Int) := of_decide_eq_true (by first | (with_reducible assumption) | assumption)
              have q127 : x10_1 < (l0.length : Int) := of_decide_eq_true (by first | (with_reducible assumption) | assumption)
              obtain ⟨ad127, e127, hx127_0, hx127_1⟩ := at_T63 HR0.out x10_1 p127 q127
              cases e127
              replace hx127_0 := (HB.out.cell (World.block_lt_of_cell? w _ hx127_0)).trans hx127_0
              replace hx127_1 := (HB.out.cell (World.block_lt_of_cell? w _ hx127_1)).trans hx127_1
              replace p127 := eq_true p127
              replace q127 := eq_true q127
              go_wp2_with (first | ((with_reducible refine gate_dst (N := 5) rfl ?_); refine box_event ?hg (N := 5) ?hd (cs := #[.int .i64 0, .int .i64 0]) (t := 63) ?hr ?_; (case hd => rfl); (case hg => rfl); (case hr => first | (go_simp; done) | (go_simp; rfl)); intro gb128 hg w7 hbox hb; have n0_ := Aside0.mk (Kd.R_below (by (with_reducible repeat (first | apply Kd.R_alloc | apply Kd.R_drewN | apply Kd.R_drew)); exact HO_3.out) hb); have n1_ := Aside0.mk (below_step (by repeat (first | (with_reducible first | exact HB.out | apply below_alloc | apply pw_below_drewN | apply below_drew1) | exact HB.out)) hb); have n2_ := Aside0.mk (hbox); have n3_ := Aside0.mk ((by rw [hg]; exact (below_size (by repeat (first | (with_reducible first | exact HB.out | apply below_alloc | apply pw_below_drewN | apply below_drew1) | exact HB.out))) : w.heap.size ≤ gb128)); have n4_ := Aside0.mk ((by rw [hg]; exact (below_size (by repeat (first | (with_reducible first | exact HB.out | apply below_alloc | apply pw_below_drewN | apply below_drew1) | exact HB.out))) : w.heap.size ≤ gb128)); clear HO_3; clear HB; have HO_3 := n0_; have HB := n1_; have BK128 := n2_; have GW128 := n3_; have GE128 := n4_; clear n0_ n1_ n2_ n3_ n4_; clear hb hbox hg; have hcz8_0 : w7.cell? ⟨gb128, 0, none⟩ = some (.int .i64 0) := (blk_cell BK128.out 0).trans rfl; have hcz8_1 : w7.cell? ⟨gb128, 1, none⟩ = some (.int .i64 0) := (blk_cell BK128.out 1).trans rfl; have hfz8_0 := blk_frozen BK128.out 0; have hfz8_1 := blk_frozen BK128.out 1) | ((with_reducible refine gate_callee (f := 41) rfl ?_); refine goesL_ (some 16) rfl rfl Try.func41 (by kernel_rfl) rfl #[.agg #[.int .i64 ((rd_T63 l0 x10_1).f0), .int .i64 ((rd_T63 l0 x10_1).f1)]] rfl (by (try simp only [List.map_toArray, List.map_cons, List.map_nil]); first | done | rfl | (simp only [List.length_drop, List.length_take]; rfl)) ?_; (with_reducible refine (intervals_Interval_Bounds.calls ((rd_T63 l0 x10_1).f0) ((rd_T63 l0 x10_1).f1) t129 t130 _ A5.out).mono ?_); rintro e w9 ⟨rfl, hb⟩; refine ⟨_, rfl, ?_⟩; have n0_ := Aside0.mk (Kd.R_below (by (with_reducible repeat (first | apply Kd.R_alloc | apply Kd.R_drewN | apply Kd.R_drew)); exact (Kd.R_mono (Kd.R_far (p := ⟨gb128, 1, none⟩) (Kd.R_far (p := ⟨gb128, 0, none⟩) (Kd.R_types HO_3.out BK128.out (by decide)) (fun _ hk => hk.2) (.int .i64 ((rd_T63 l0 x10_1).f0))) (fun _ hk => hk.2) (.int .i64 ((rd_T63 l0 x10_1).f1))) (fun _ h_ => h_.1))) hb); have n1_ := Aside0.mk (blk_below (g := gb128) (o := .cells #[.int .i64 ((rd_T63 l0 x10_1).f0), .int .i64 ((rd_T63 l0 x10_1).f1)] 63 (0, 0)) (by (with_reducible repeat (first | refine blk_drewN ?_ _ | refine blk_drew ?_ | refine blk_alloc ?_ _)); refine blk_put (cs := #[.int .i64 ((rd_T63 l0 x10_1).f0), .int .i64 0]) ?_ 1 _ rfl; (with_reducible repeat (first | refine blk_drewN ?_ _ | refine blk_drew ?_ | refine blk_alloc ?_ _)); refine blk_put (cs := #[.int .i64 0, .int .i64 0]) ?_ 0 _ rfl; (with_reducible repeat (first | refine blk_drewN ?_ _ | refine blk_drew ?_ | refine blk_alloc ?_ _)); exact BK128.out) hb); have n2_ := Aside0.mk (below_step (by repeat (first | (with_reducible first | exact HB.out | apply below_alloc | apply pw_below_drewN | apply below_drew1 | refine below_set ?_ GE128.out) | exact HB.out)) hb); clear HO_3; clear BK128; clear HB; have HO_3 := n0_; have BK128 := n1_; have HB := n2_; clear n0_ n1_ n2_; (try clear hb); (try clear hb2); (try clear hk); (try clear hi)) | ((with_reducible refine gate_builtin (b := .append) (xs := #[.tmp 19, .tmp 23]) rfl ?_); at_builtin; refine Kd.R_append k39 (w0 := w) w.heap.size rfl (.tmp 19) (.tmp 23) 22 39 (.agg #[(.int .i64 0), (.int .i64 0)]) 16 rfl Try.underlying22 info39 rfl (by decide) (by omega) u3 x3_1 (⟨t129, t130⟩ : S39) [.int .i64 t129, .int .i64 t130] (fun _ => True) (fun _ => False) rfl rfl ?aP (fun _ hk => hk.elim) ?aF ?aO ?aB ?aS ?aL ?_; (case aP => exact k39_mkM _ _ _ (⟨t129, t130⟩ : S39)); (case aB => exact (by repeat (first | (with_reducible first | exact HB.out | apply below_alloc | apply pw_below_drewN | apply below_drew1 | refine below_set ?_ GE128.out) | exact HB.out))); (case aF => exact (fun _ _ => trivial)); (case aO => exact (by (with_reducible repeat (first | apply Kd.R_alloc | apply Kd.R_drewN | apply Kd.R_drew)); exact HO_3.out)); (case aS => exact (below_size (by repeat (first | (with_reducible first | exact HB.out | apply below_alloc | apply pw_below_drewN | apply below_drew1 | refine below_set ?_ GE128.out) | exact HB.out)))); (case aL => have := LMc6.out; omega); intro v132 w10 ho hb hg hat; rw [← Ny131.out] at ho; have n0_ := Aside0.mk (blk_grown (g := gb128) (o := .cells #[.int .i64 ((rd_T63 l0 x10_1).f0), .int .i64 ((rd_T63 l0 x10_1).f1)] 63 (0, 0)) (by (with_reducible repeat (first | refine blk_drewN ?_ _ | refine blk_drew ?_ | refine blk_alloc ?_ _)); exact BK128.out) hg (Kd.R_ne HO_3.out BK128.out (by decide))); have n1_ := Aside0.mk (hb); have n2_ := Aside0.mk (ho); clear BK128; clear HB; clear HO_3; have BK128 := n0_; have HB := n1_; have HO133 := n2_; clear n0_ n1_ n2_; clear ho hb hg hat))
              go_roundg k1
              case measure => have := HK1.out; omega
              case rel => exact ⟨(y131), (wrap64 (x10_1 + 1)), (by first | rfl | (simp; done) | (simp [*]; done)), H', ⟨by have := HK1.out; omega⟩, ⟨by (with_reducible repeat (first | apply Kd.R_alloc | apply Kd.R_drewN | apply Kd.R_drew)); exact HO133.out⟩, ⟨by repeat (first | (with_reducible first | exact HB.out | apply below_alloc | apply pw_below_drewN | apply below_drew1 | refine below_set ?_ GE128.out) | exact HB.out)⟩⟩
            · rw [if_neg c6] at H
              exact absurd H (by simp)
          · rw [if_neg c4] at H
            exact absurd H (by simp)
        · rw [if_neg c3] at H
          exact absurd H (by simp)
      · rw [if_neg c2] at H
        have c2b0 : decide (x10_1 < (l0.length : Int)) = false := decide_eq_false c2
        clear c2
        obtain rfl := Option.some.inj H
        go_wp2
        go_ret
        exact ⟨_, by first | rfl | (simp [errW_none, errW_some] <;> rfl) | (simp [*, errW_none, errW_some] <;> rfl), by (with_reducible repeat (first | apply Kd.R_alloc | apply Kd.R_drewN | apply Kd.R_drew)); exact HO_3.out, by repeat (first | (with_reducible first | exact HB.out | apply below_alloc | apply pw_below_drewN | apply below_drew1) | exact HB.out)⟩

/-! ### intervals_intWithIdx_done: function 44 -/
def intervals_intWithIdx_done.f (a0_0 : Int) (a0_1 : Int) (a0_2 : Int) : Option (Bool) := some (a0_2 == (-1))
set_option maxHeartbeats 8000000 in
set_option maxRecDepth 100000 in
theorem intervals_intWithIdx_done.calls (a0_0 : Int) (a0_1 : Int) (a0_2 : Int) (r : Bool) (w : World) (h : intervals_intWithIdx_done.f a0_0 a0_1 a0_2 = some r) :
    Calls Try.prog 44 #[.agg #[.int .i64 a0_0, .int .i64 a0_1, .int .i64 a0_2]] w fun e w' => e = .returned (.bool r) ∧ Below w.heap.size w w' := by
  have hu70 := Try.underlying70
  have HB := Aside0.mk (Below.refl w.heap.size w)
  have H : (some (a0_2 == (-1))) = some r := h
  clear h
  obtain rfl := Option.some.inj H
  go_enter Try.func44, Try.ntmps44
  go_wp2_with (first | ((with_reducible refine gate_dst (N := 1) rfl ?_); refine box_event ?hg (N := 1) ?hd (cs := #[.int .i64 a0_0, .int .i64 a0_1, .int .i64 a0_2]) (t := 70) ?hr ?_; (case hd => rfl); (case hg => rfl); (case hr => first | (go_simp; done) | (go_simp; rfl)); intro gb141 hg w2 hbox hb; have n0_ := Aside0.mk (below_step (by repeat (first | (with_reducible first | exact HB.out | apply below_alloc | apply pw_below_drewN | apply below_drew1) | exact HB.out)) hb); have n1_ := Aside0.mk (hbox); have n2_ := Aside0.mk ((by rw [hg]; exact (below_size (by repeat (first | (with_reducible first | exact HB.out | apply below_alloc | apply pw_below_drewN | apply below_drew1) | exact HB.out))) : w.heap.size ≤ gb141)); have n3_ := Aside0.mk ((by rw [hg]; exact (below_size (by repeat (first | (with_reducible first | exact HB.out | apply below_alloc | apply pw_below_drewN | apply below_drew1) | exact HB.out))) : w.heap.size ≤ gb141)); clear HB; have HB := n0_; have BK141 := n1_; have GW141 := n2_; have GE141 := n3_; clear n0_ n1_ n2_ n3_; clear hb hbox hg; have hcz3_0 : w2.cell? ⟨gb141, 0, none⟩ = some (.int .i64 a0_0) := (blk_cell BK141.out 0).trans rfl; have hcz3_1 : w2.cell? ⟨gb141, 1, none⟩ = some (.int .i64 a0_1) := (blk_cell BK141.out 1).trans rfl; have hcz3_2 : w2.cell? ⟨gb141, 2, none⟩ = some (.int .i64 a0_2) := (blk_cell BK141.out 2).trans rfl; have hfz3_0 := blk_frozen BK141.out 0; have hfz3_1 := blk_frozen BK141.out 1; have hfz3_2 := blk_frozen BK141.out 2))
  go_ret
  exact ⟨by first | rfl | (simp [errW_none, errW_some] <;> rfl) | (simp [*, errW_none, errW_some] <;> rfl), by repeat (first | (with_reducible first | exact HB.out | apply below_alloc | apply pw_below_drewN | apply below_drew1 | refine below_set ?_ GE141.out) | exact HB.out)⟩

/-! ### intervals_Interval_adjacent: function 45 -/
def intervals_Interval_adjacent.f (a0_0 : Int) (a0_1 : Int) (a1_0 : Int) (a1_1 : Int) : Option (Bool) := if a0_1 = a1_0 then (some true) else (some (a1_1 == a0_0))
set_option maxHeartbeats 8000000 in
set_option maxRecDepth 100000 in
theorem intervals_Interval_adjacent.calls (a0_0 : Int) (a0_1 : Int) (a1_0 : Int) (a1_1 : Int) (r : Bool) (w : World) (h : intervals_Interval_adjacent.f a0_0 a0_1 a1_0 a1_1 = some r) :
    Calls Try.prog 45 #[.agg #[.int .i64 a0_0, .int .i64 a0_1], .agg #[.int .i64 a1_0, .int .i64 a1_1]] w fun e w' => e = .returned (.bool r) ∧ Below w.heap.size w w' := by
  have hu63 := Try.underlying63
  have HB := Aside0.mk (Below.refl w.heap.size w)
  have H : (if a0_1 = a1_0 then (some true) else (some (a1_1 == a0_0))) = some r := h
  clear h
  by_cases c3 : a0_1 = a1_0
  · rw [if_pos c3] at H
    have c3b0 : (a0_1 == a1_0) = true := beq_iff_eq.mpr c3
    have c3b1 : (a0_1 != a1_0) = false := bne_eq_false_iff_eq.mpr c3
    clear c3
    obtain rfl := Option.some.inj H
    go_enter Try.func45, Try.ntmps45
    go_wp2_with (first | ((with_reducible refine gate_dst (N := 2) rfl ?_); refine box_event ?hg (N := 2) ?hd (cs := #[.int .i64 a0_0, .int .i64 a0_1]) (t := 63) ?hr ?_; (case hd => rfl); (case hg => rfl); (case hr => first | (go_simp; done) | (go_simp; rfl)); intro gb142 hg w4 hbox hb; have n0_ := Aside0.mk (below_step (by repeat (first | (with_reducible first | exact HB.out | apply below_alloc | apply pw_below_drewN | apply below_drew1) | exact HB.out)) hb); have n1_ := Aside0.mk (hbox); have n2_ := Aside0.mk ((by rw [hg]; exact (below_size (by repeat (first | (with_reducible first | exact HB.out | apply below_alloc | apply pw_below_drewN | apply below_drew1) | exact HB.out))) : w.heap.size ≤ gb142)); have n3_ := Aside0.mk ((by rw [hg]; exact (below_size (by repeat (first | (with_reducible first | exact HB.out | apply below_alloc | apply pw_below_drewN | apply below_drew1) | exact HB.out))) : w.heap.size ≤ gb142)); clear HB; have HB := n0_; have BK142 := n1_; have GW142 := n2_; have GE142 := n3_; clear n0_ n1_ n2_ n3_; clear hb hbox hg) | ((with_reducible refine gate_dst (N := 3) rfl ?_); refine box_event ?hg (N := 3) ?hd (cs := #[.int .i64 a1_0, .int .i64 a1_1]) (t := 63) ?hr ?_; (case hd => rfl); (case hg => rfl); (case hr => first | (go_simp; done) | (go_simp; rfl)); intro gb143 hg w5 hbox hb; have n0_ := Aside0.mk (blk_below (g := gb142) (o := .cells #[.int .i64 a0_0, .int .i64 a0_1] 63 (0, 0)) (by (with_reducible repeat (first | refine blk_drewN ?_ _ | refine blk_drew ?_ | refine blk_alloc ?_ _)); exact BK142.out) hb); have n1_ := Aside0.mk (below_step (by repeat (first | (with_reducible first | exact HB.out | apply below_alloc | apply pw_below_drewN | apply below_drew1 | refine below_set ?_ GE142.out) | exact HB.out)) hb); have n2_ := Aside0.mk (hbox); have n3_ := Aside0.mk ((by rw [hg]; exact (below_size (by repeat (first | (with_reducible first | exact HB.out | apply below_alloc | apply pw_below_drewN | apply below_drew1 | refine below_set ?_ GE142.out) | exact HB.out))) : w.heap.size ≤ gb143)); have n4_ := Aside0.mk ((by rw [hg]; exact (below_size (by repeat (first | (with_reducible first | exact HB.out | apply below_alloc | apply pw_below_drewN | apply below_drew1 | refine below_set ?_ GE142.out) | exact HB.out))) : w.heap.size ≤ gb143)); have n5_ := Aside0.mk ((by rw [hg]; exact Nat.ne_of_lt (blk_lt (g := gb142) (o := .cells #[.int .i64 a0_0, .int .i64 a0_1] 63 (0, 0)) (by (with_reducible repeat (first | refine blk_drewN ?_ _ | refine blk_drew ?_ | refine blk_alloc ?_ _)); exact BK142.out)) : gb142 ≠ gb143)); have n6_ := Aside0.mk ((by rw [hg]; exact Nat.ne_of_gt (blk_lt (g := gb142) (o := .cells #[.int .i64 a0_0, .int .i64 a0_1] 63 (0, 0)) (by (with_reducible repeat (first | refine blk_drewN ?_ _ | refine blk_drew ?_ | refine blk_alloc ?_ _)); exact BK142.out)) : gb143 ≠ gb142)); clear BK142; clear HB; have BK142 := n0_; have HB := n1_; have BK143 := n2_; have GW143 := n3_; have GE143 := n4_; have NB142_143 := n5_; have NB143_142 := n6_; clear n0_ n1_ n2_ n3_ n4_ n5_ n6_; clear hb hbox hg; have hnb6 := NB142_143.out; have hnc6 := NB143_142.out; have hcz7_0 : w5.cell? ⟨gb142, 0, none⟩ = some (.int .i64 a0_0) := (blk_cell BK142.out 0).trans rfl; have hcz7_1 : w5.cell? ⟨gb142, 1, none⟩ = some (.int .i64 a0_1) := (blk_cell BK142.out 1).trans rfl; have hfz7_0 := blk_frozen BK142.out 0; have hfz7_1 := blk_frozen BK142.out 1; have hcz8_0 : w5.cell? ⟨gb143, 0, none⟩ = some (.int .i64 a1_0) := (blk_cell BK143.out 0).trans rfl; have hcz8_1 : w5.cell? ⟨gb143, 1, none⟩ = some (.int .i64 a1_1) := (blk_cell BK143.out 1).trans rfl; have hfz8_0 := blk_frozen BK143.out 0; have hfz8_1 := blk_frozen BK143.out 1))
    go_ret
    exact ⟨by first | rfl | (simp [errW_none, errW_some] <;> rfl) | (simp [*, errW_none, errW_some] <;> rfl), by repeat (first | (with_reducible first | exact HB.out | apply below_alloc | apply pw_below_drewN | apply below_drew1 | refine below_set ?_ GE142.out | refine below_set ?_ GE143.out) | exact HB.out)⟩
  · rw [if_neg c3] at H
    have c3b0 : (a0_1 == a1_0) = false := beq_eq_false_iff_ne.mpr c3
    have c3b1 : (a0_1 != a1_0) = true := bne_iff_ne.mpr c3
    obtain rfl := Option.some.inj H
    go_enter Try.func45, Try.ntmps45
    go_wp2_with (first | ((with_reducible refine gate_dst (N := 2) rfl ?_); refine box_event ?hg (N := 2) ?hd (cs := #[.int .i64 a0_0, .int .i64 a0_1]) (t := 63) ?hr ?_; (case hd => rfl); (case hg => rfl); (case hr => first | (go_simp; done) | (go_simp; rfl)); intro gb142 hg w9 hbox hb; have n0_ := Aside0.mk (below_step (by repeat (first | (with_reducible first | exact HB.out | apply below_alloc | apply pw_below_drewN | apply below_drew1) | exact HB.out)) hb); have n1_ := Aside0.mk (hbox); have n2_ := Aside0.mk ((by rw [hg]; exact (below_size (by repeat (first | (with_reducible first | exact HB.out | apply below_alloc | apply pw_below_drewN | apply below_drew1) | exact HB.out))) : w.heap.size ≤ gb142)); have n3_ := Aside0.mk ((by rw [hg]; exact (below_size (by repeat (first | (with_reducible first | exact HB.out | apply below_alloc | apply pw_below_drewN | apply below_drew1) | exact HB.out))) : w.heap.size ≤ gb142)); clear HB; have HB := n0_; have BK142 := n1_; have GW142 := n2_; have GE142 := n3_; clear n0_ n1_ n2_ n3_; clear hb hbox hg) | ((with_reducible refine gate_dst (N := 3) rfl ?_); refine box_event ?hg (N := 3) ?hd (cs := #[.int .i64 a1_0, .int .i64 a1_1]) (t := 63) ?hr ?_; (case hd => rfl); (case hg => rfl); (case hr => first | (go_simp; done) | (go_simp; rfl)); intro gb143 hg w10 hbox hb; have n0_ := Aside0.mk (blk_below (g := gb142) (o := .cells #[.int .i64 a0_0, .int .i64 a0_1] 63 (0, 0)) (by (with_reducible repeat (first | refine blk_drewN ?_ _ | refine blk_drew ?_ | refine blk_alloc ?_ _)); exact BK142.out) hb); have n1_ := Aside0.mk (below_step (by repeat (first | (with_reducible first | exact HB.out | apply below_alloc | apply pw_below_drewN | apply below_drew1 | refine below_set ?_ GE142.out) | exact HB.out)) hb); have n2_ := Aside0.mk (hbox); have n3_ := Aside0.mk ((by rw [hg]; exact (below_size (by repeat (first | (with_reducible first | exact HB.out | apply below_alloc | apply pw_below_drewN | apply below_drew1 | refine below_set ?_ GE142.out) | exact HB.out))) : w.heap.size ≤ gb143)); have n4_ := Aside0.mk ((by rw [hg]; exact (below_size (by repeat (first | (with_reducible first | exact HB.out | apply below_alloc | apply pw_below_drewN | apply below_drew1 | refine below_set ?_ GE142.out) | exact HB.out))) : w.heap.size ≤ gb143)); have n5_ := Aside0.mk ((by rw [hg]; exact Nat.ne_of_lt (blk_lt (g := gb142) (o := .cells #[.int .i64 a0_0, .int .i64 a0_1] 63 (0, 0)) (by (with_reducible repeat (first | refine blk_drewN ?_ _ | refine blk_drew ?_ | refine blk_alloc ?_ _)); exact BK142.out)) : gb142 ≠ gb143)); have n6_ := Aside0.mk ((by rw [hg]; exact Nat.ne_of_gt (blk_lt (g := gb142) (o := .cells #[.int .i64 a0_0, .int .i64 a0_1] 63 (0, 0)) (by (with_reducible repeat (first | refine blk_drewN ?_ _ | refine blk_drew ?_ | refine blk_alloc ?_ _)); exact BK142.out)) : gb143 ≠ gb142)); clear BK142; clear HB; have BK142 := n0_; have HB := n1_; have BK143 := n2_; have GW143 := n3_; have GE143 := n4_; have NB142_143 := n5_; have NB143_142 := n6_; clear n0_ n1_ n2_ n3_ n4_ n5_ n6_; clear hb hbox hg; have hnb11 := NB142_143.out; have hnc11 := NB143_142.out; have hcz12_0 : w10.cell? ⟨gb142, 0, none⟩ = some (.int .i64 a0_0) := (blk_cell BK142.out 0).trans rfl; have hcz12_1 : w10.cell? ⟨gb142, 1, none⟩ = some (.int .i64 a0_1) := (blk_cell BK142.out 1).trans rfl; have hfz12_0 := blk_frozen BK142.out 0; have hfz12_1 := blk_frozen BK142.out 1; have hcz13_0 : w10.cell? ⟨gb143, 0, none⟩ = some (.int .i64 a1_0) := (blk_cell BK143.out 0).trans rfl; have hcz13_1 : w10.cell? ⟨gb143, 1, none⟩ = some (.int .i64 a1_1) := (blk_cell BK143.out 1).trans rfl; have hfz13_0 := blk_frozen BK143.out 0; have hfz13_1 := blk_frozen BK143.out 1))
    go_ret
    exact ⟨by first | rfl | (simp [errW_none, errW_some] <;> rfl) | (simp [*, errW_none, errW_some] <;> rfl), by repeat (first | (with_reducible first | exact HB.out | apply below_alloc | apply pw_below_drewN | apply below_drew1 | refine below_set ?_ GE142.out | refine below_set ?_ GE143.out) | exact HB.out)⟩
end Go.Proofs.Ytmfffeoodlmnbaa.Sp
