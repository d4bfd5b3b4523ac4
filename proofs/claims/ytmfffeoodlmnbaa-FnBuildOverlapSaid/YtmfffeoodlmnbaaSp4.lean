/- Backwards, behind, Live, Reverse: as print.sh writes them, taken over whole, so that all laws of the seat share them: a Lean function each, and that the Go code comes to its answers. No condition. -/
import Derived.Test.YtmfffeoodlmnbaaProg
import Derived.Below
import Derived.Deep.Draws
import Derived.Deep.AppendLies
import Derived.Maps.AppendAt
import Derived.OwnWalk
import Derived.Laws.BytesArg
import Derived.Laws.MakeOwn
import Derived.Laws.OwnMore
import Derived.Deep.OwnRows
import Derived.Tactics
import Derived.Lib.ConvBytes
import Derived.Laws.Slices
import Derived.WalkKit
import Derived.KernelRfl
import Derived.RowKit3
import Derived.Deep.LoopGhost
import Derived.Deep.QuietTactic
import Derived.BigQuiet
import Derived.WideLaws
import Derived.Deep.DeepCutAuto
import Derived.Deep.CutBlock
import Derived.Deep.RegionHeld3
import Derived.Laws.Rows
import Derived.Lib.AppendStr
import Derived.ArgAppend
import Derived.Laws.IdiomCopy
import Derived.OrdersHeld
import Derived.Laws.BitsLemmas
import Derived.RowKit
import Derived.Test.YtmfffeoodlmnbaaWWords
import Derived.Test.YtmfffeoodlmnbaaWLast
import Derived.Test.YtmfffeoodlmnbaaWTab
import Derived.Test.YtmfffeoodlmnbaaWFour
import Derived.Test.YtmfffeoodlmnbaaWQPut
import Derived.Test.YtmfffeoodlmnbaaWApart
import Derived.Test.YtmfffeoodlmnbaaWArr
import Derived.Test.YtmfffeoodlmnbaaWZeros
import Derived.Test.YtmfffeoodlmnbaaWFoot
import Derived.Test.YtmfffeoodlmnbaaWKept
import Derived.Test.YtmfffeoodlmnbaaWShare
import Derived.Test.YtmfffeoodlmnbaaWN
import Derived.Test.YtmfffeoodlmnbaaWFootNe
import Derived.Test.YtmfffeoodlmnbaaWAt
import Derived.Test.YtmfffeoodlmnbaaWEqStruct
import Derived.Test.YtmfffeoodlmnbaaWRepsOne
import Derived.Test.YtmfffeoodlmnbaaWInv
import Derived.Test.YtmfffeoodlmnbaaWInvWords
import Derived.Test.YtmfffeoodlmnbaaWGuard
import Derived.Test.YtmfffeoodlmnbaaWNEv
import Derived.Test.YtmfffeoodlmnbaaWMore
import Derived.Test.YtmfffeoodlmnbaaSp1
namespace Go.Proofs.Ytmfffeoodlmnbaa.Sp
open Go.RowKit Go.Proofs.YtmfffeoodlmnbaaW.PrintWords Go.Proofs.YtmfffeoodlmnbaaW.PrintLast Go.Proofs.YtmfffeoodlmnbaaW.PrintMore
attribute [local go_sem] max2_int min2_int max_two min_two max_three min_three max_four min_four
set_option linter.unusedVariables false
set_option linter.unusedSimpArgs false
/-! ### spec_Backwards: function 17 -/
def spec_Backwards.l0 : Nat → List (S32) → List (S32) → Int → Int → Option (Bool)
  | 0, _, _, _, _ => none
  | k + 1, x0, x8, x9, x10 => if x10 < x9 then (if 0 ≤ x10 then (if x10 < (x8.length : Int) then (if ((rd_T32 x8 x10).f0) < 0 then (some false) else (if ((rd_T32 x8 x10).f0) > 1099511627776 then (some false) else (if x10 > 0 then (if 0 ≤ (wrap64 (x10 - 1)) then (if (wrap64 (x10 - 1)) < (x0.length : Int) then (if ((rd_T32 x0 (wrap64 (x10 - 1))).f0) ≤ ((rd_T32 x8 x10).f0) then (some false) else (spec_Backwards.l0 k x0 x8 x9 (wrap64 (x10 + 1)))) else (none)) else (none)) else (spec_Backwards.l0 k x0 x8 x9 (wrap64 (x10 + 1)))))) else (none)) else (none)) else (some true)
def spec_Backwards.f (k : Nat) (l0 : List (S32)) : Option (Bool) := if (l0.length : Int) > 1000000 then (some false) else (spec_Backwards.l0 k l0 l0 (l0.length : Int) 0)
theorem spec_Backwards.mono_l : ∀ k, (∀ y0 y1 y2 y3, LeO (spec_Backwards.l0 k y0 y1 y2 y3) (spec_Backwards.l0 (k + 1) y0 y1 y2 y3))
  | 0 => fun _ _ _ _ r h => by simp [spec_Backwards.l0] at h
  | k + 1 => by
    have ih0 := spec_Backwards.mono_l k
    · intro y0 y1 y2 y3
      unfold spec_Backwards.l0
      repeat' first
      | (with_reducible exact ih0 _ _ _ _)
      | (with_reducible exact LeO.refl _)
      | (with_reducible exact LeO.none _)
      | (with_reducible refine LeO.ite ?_ ?_)
      | (with_reducible refine LeO.bind ?_ (fun _ => ?_))
      | exact ih0 _ _ _ _
      | exact LeO.none _
      | refine LeO.ite ?_ ?_
      | refine LeO.bind ?_ (fun _ => ?_)
theorem spec_Backwards.mono : ∀ a0 k, LeO (spec_Backwards.f k a0) (spec_Backwards.f (k + 1) a0) := by
  intro a0 k
  have ih0 := spec_Backwards.mono_l k
  unfold spec_Backwards.f
  repeat' first
      | (with_reducible exact ih0 _ _ _ _)
      | (with_reducible exact LeO.refl _)
      | (with_reducible exact LeO.none _)
      | (with_reducible refine LeO.ite ?_ ?_)
      | (with_reducible refine LeO.bind ?_ (fun _ => ?_))
      | exact ih0 _ _ _ _
      | exact LeO.none _
      | refine LeO.ite ?_ ?_
      | refine LeO.bind ?_ (fun _ => ?_)
set_option maxHeartbeats 8000000 in
set_option maxRecDepth 100000 in
theorem spec_Backwards.calls (k : Nat) (A0 : Option Addr) (c0 : Nat) (l0 : List (S32)) (r : Bool) (w : World) (hr0 : Kd.C k32 w A0 l0.length l0) (hc0 : l0.length ≤ c0) (h : spec_Backwards.f k l0 = some r) :
    Calls Try.prog 17 #[.slice A0 l0.length c0] w fun e w' => e = .returned (.bool r) ∧ Below w.heap.size w w' := by
  have hu32 := Try.underlying32
  have HR0 := Aside0.mk hr0
  have HC0 := Aside0.mk hc0
  clear hr0 hc0
  have HB := Aside0.mk (Below.refl w.heap.size w)
  have H : (if (l0.length : Int) > 1000000 then (some false) else (spec_Backwards.l0 k l0 l0 (l0.length : Int) 0)) = some r := h
  clear h
  by_cases c2 : (l0.length : Int) > 1000000
  · rw [if_pos c2] at H
    have c2b0 : decide (1000000 < (l0.length : Int)) = true := decide_eq_true c2
    have c2b1 : decide (1000000 < l0.length) = true := decide_eq_true (by omega)
    clear c2
    obtain rfl := Option.some.inj H
    go_enter Try.func17, Try.ntmps17
    go_wp2
    repeat (go_quiet (fail); try go_wp2)
    go_ret
    exact ⟨by first | rfl | (simp [errW_none, errW_some] <;> rfl) | (simp [*, errW_none, errW_some] <;> rfl), by repeat (first | (with_reducible first | exact HB.out | apply below_alloc | apply pw_below_drewN | apply below_drew1) | exact HB.out)⟩
  · rw [if_neg c2] at H
    have c2b0 : decide (1000000 < (l0.length : Int)) = false := decide_eq_false c2
    have c2b1 : decide (1000000 < l0.length) = false := decide_eq_false (by omega)
    clear c2
    have H' := Aside0.mk H
    clear H
    go_enter Try.func17, Try.ntmps17
    go_wp2
    repeat (go_quiet (fail); try go_wp2)
    go_loopg [10] k (fun kq v10 w' => ∃ (x10_1 : Int), v10 = .int .i64 x10_1 ∧ Aside0 (spec_Backwards.l0 kq l0 l0 (l0.length : Int) x10_1 = some r) ∧ Aside0 (kq ≤ k) ∧ Aside0 (Below w.heap.size w w'))
    case atStart => exact ⟨(0), (by first | rfl | (simp; done) | (simp [*]; done)), H', ⟨Nat.le_refl _⟩, ⟨by repeat (first | (with_reducible first | exact HB.out | apply below_alloc | apply pw_below_drewN | apply below_drew1) | exact HB.out)⟩⟩
    case round =>
      clear H'
      try clear c1
      try clear c2
      try clear c2b0
      try clear c2b1
      try clear p2
      obtain ⟨x10_1, rfl, HA, HK1, HB⟩ := hrel
      cases gk with
      | zero => exact absurd HA.out (by simp [spec_Backwards.l0])
      | succ k1 =>
        have H := HA.out
        clear HA
        simp only [spec_Backwards.l0] at H
        by_cases c3 : x10_1 < (l0.length : Int)
        · rw [if_pos c3] at H
          have c3b0 : decide (x10_1 < (l0.length : Int)) = true := decide_eq_true c3
          clear c3
          by_cases c4 : 0 ≤ x10_1
          · rw [if_pos c4] at H
            have c4b0 : decide (0 ≤ x10_1) = true := decide_eq_true c4
            clear c4
            by_cases c5 : x10_1 < (l0.length : Int)
            · rw [if_pos c5] at H
              have c5b0 : decide (x10_1 < (l0.length : Int)) = true := decide_eq_true c5
              clear c5
              by_cases c6 : ((rd_T32 l0 x10_1).f0) < 0
              · rw [if_pos c6] at H
                have c6b0 : decide (((rd_T32 l0 x10_1).f0) < 0) = true := decide_eq_true c6
                clear c6
                obtain rfl := Option.some.inj H
                have p132 : 0 ≤ (x10_1 : Int) := of_decide_eq_true (by first | (with_reducible assumption) | assumption)
                have q132 : x10_1 < (l0.length : Int) := of_decide_eq_true (by first | (with_reducible assumption) | assumption)
                obtain ⟨ad132, e132, hx132_0, hx132_1⟩ := at_T32 HR0.out x10_1 p132 q132
                cases e132
                replace hx132_0 := (HB.out.cell (World.block_lt_of_cell? w _ hx132_0)).trans hx132_0
                replace hx132_1 := (HB.out.cell (World.block_lt_of_cell? w _ hx132_1)).trans hx132_1
                replace p132 := eq_true p132
                replace q132 := eq_true q132
                go_wp2_with (first | ((with_reducible refine gate_dst (N := 4) rfl ?_); refine box_event ?hg (N := 4) ?hd (cs := #[.int .i64 0, .bool false]) (t := 32) ?hr ?_; (case hd => rfl); (case hg => rfl); (case hr => first | (go_simp; done) | (go_simp; rfl)); intro gb133 hg w7 hbox hb; have n0_ := Aside0.mk (below_step (by repeat (first | (with_reducible first | exact HB.out | apply below_alloc | apply pw_below_drewN | apply below_drew1) | exact HB.out)) hb); have n1_ := Aside0.mk (hbox); have n2_ := Aside0.mk ((by rw [hg]; exact (below_size (by repeat (first | (with_reducible first | exact HB.out | apply below_alloc | apply pw_below_drewN | apply below_drew1) | exact HB.out))) : w.heap.size ≤ gb133)); have n3_ := Aside0.mk ((by rw [hg]; exact (below_size (by repeat (first | (with_reducible first | exact HB.out | apply below_alloc | apply pw_below_drewN | apply below_drew1) | exact HB.out))) : w.heap.size ≤ gb133)); clear HB; have HB := n0_; have BK133 := n1_; have GW133 := n2_; have GE133 := n3_; clear n0_ n1_ n2_ n3_; clear hb hbox hg; have hcz8_0 : w7.cell? ⟨gb133, 0, none⟩ = some (.int .i64 0) := (blk_cell BK133.out 0).trans rfl; have hcz8_1 : w7.cell? ⟨gb133, 1, none⟩ = some (.bool false) := (blk_cell BK133.out 1).trans rfl; have hfz8_0 := blk_frozen BK133.out 0; have hfz8_1 := blk_frozen BK133.out 1))
                repeat (go_quiet (first | ((with_reducible refine gate_dst (N := 4) rfl ?_); refine box_event ?hg (N := 4) ?hd (cs := #[.int .i64 0, .bool false]) (t := 32) ?hr ?_; (case hd => rfl); (case hg => rfl); (case hr => first | (go_simp; done) | (go_simp; rfl)); intro gb133 hg w7 hbox hb; have n0_ := Aside0.mk (below_step (by repeat (first | (with_reducible first | exact HB.out | apply below_alloc | apply pw_below_drewN | apply below_drew1) | exact HB.out)) hb); have n1_ := Aside0.mk (hbox); have n2_ := Aside0.mk ((by rw [hg]; exact (below_size (by repeat (first | (with_reducible first | exact HB.out | apply below_alloc | apply pw_below_drewN | apply below_drew1) | exact HB.out))) : w.heap.size ≤ gb133)); have n3_ := Aside0.mk ((by rw [hg]; exact (below_size (by repeat (first | (with_reducible first | exact HB.out | apply below_alloc | apply pw_below_drewN | apply below_drew1) | exact HB.out))) : w.heap.size ≤ gb133)); clear HB; have HB := n0_; have BK133 := n1_; have GW133 := n2_; have GE133 := n3_; clear n0_ n1_ n2_ n3_; clear hb hbox hg; have hcz8_0 : w7.cell? ⟨gb133, 0, none⟩ = some (.int .i64 0) := (blk_cell BK133.out 0).trans rfl; have hcz8_1 : w7.cell? ⟨gb133, 1, none⟩ = some (.bool false) := (blk_cell BK133.out 1).trans rfl; have hfz8_0 := blk_frozen BK133.out 0; have hfz8_1 := blk_frozen BK133.out 1)); try go_wp2_with (first | ((with_reducible refine gate_dst (N := 4) rfl ?_); refine box_event ?hg (N := 4) ?hd (cs := #[.int .i64 0, .bool false]) (t := 32) ?hr ?_; (case hd => rfl); (case hg => rfl); (case hr => first | (go_simp; done) | (go_simp; rfl)); intro gb133 hg w7 hbox hb; have n0_ := Aside0.mk (below_step (by repeat (first | (with_reducible first | exact HB.out | apply below_alloc | apply pw_below_drewN | apply below_drew1) | exact HB.out)) hb); have n1_ := Aside0.mk (hbox); have n2_ := Aside0.mk ((by rw [hg]; exact (below_size (by repeat (first | (with_reducible first | exact HB.out | apply below_alloc | apply pw_below_drewN | apply below_drew1) | exact HB.out))) : w.heap.size ≤ gb133)); have n3_ := Aside0.mk ((by rw [hg]; exact (below_size (by repeat (first | (with_reducible first | exact HB.out | apply below_alloc | apply pw_below_drewN | apply below_drew1) | exact HB.out))) : w.heap.size ≤ gb133)); clear HB; have HB := n0_; have BK133 := n1_; have GW133 := n2_; have GE133 := n3_; clear n0_ n1_ n2_ n3_; clear hb hbox hg; have hcz8_0 : w7.cell? ⟨gb133, 0, none⟩ = some (.int .i64 0) := (blk_cell BK133.out 0).trans rfl; have hcz8_1 : w7.cell? ⟨gb133, 1, none⟩ = some (.bool false) := (blk_cell BK133.out 1).trans rfl; have hfz8_0 := blk_frozen BK133.out 0; have hfz8_1 := blk_frozen BK133.out 1)))
                go_ret
                exact ⟨by first | rfl | (simp [errW_none, errW_some] <;> rfl) | (simp [*, errW_none, errW_some] <;> rfl), by repeat (first | (with_reducible first | exact HB.out | apply below_alloc | apply pw_below_drewN | apply below_drew1 | refine below_set ?_ GE133.out) | exact HB.out)⟩
              · rw [if_neg c6] at H
                have c6b0 : decide (((rd_T32 l0 x10_1).f0) < 0) = false := decide_eq_false c6
                clear c6
                by_cases c9 : ((rd_T32 l0 x10_1).f0) > 1099511627776
                · rw [if_pos c9] at H
                  have c9b0 : decide (1099511627776 < ((rd_T32 l0 x10_1).f0)) = true := decide_eq_true c9
                  clear c9
                  obtain rfl := Option.some.inj H
                  have p132 : 0 ≤ (x10_1 : Int) := of_decide_eq_true (by first | (with_reducible assumption) | assumption)
                  have q132 : x10_1 < (l0.length : Int) := of_decide_eq_true (by first | (with_reducible assumption) | assumption)
                  obtain ⟨ad132, e132, hx132_0, hx132_1⟩ := at_T32 HR0.out x10_1 p132 q132
                  cases e132
                  replace hx132_0 := (HB.out.cell (World.block_lt_of_cell? w _ hx132_0)).trans hx132_0
                  replace hx132_1 := (HB.out.cell (World.block_lt_of_cell? w _ hx132_1)).trans hx132_1
                  replace p132 := eq_true p132
                  replace q132 := eq_true q132
                  go_wp2_with (first | ((with_reducible refine gate_dst (N := 4) rfl ?_); refine box_event ?hg (N := 4) ?hd (cs := #[.int .i64 0, .bool false]) (t := 32) ?hr ?_; (case hd => rfl); (case hg => rfl); (case hr => first | (go_simp; done) | (go_simp; rfl)); intro gb133 hg w10 hbox hb; have n0_ := Aside0.mk (below_step (by repeat (first | (with_reducible first | exact HB.out | apply below_alloc | apply pw_below_drewN | apply below_drew1) | exact HB.out)) hb); have n1_ := Aside0.mk (hbox); have n2_ := Aside0.mk ((by rw [hg]; exact (below_size (by repeat (first | (with_reducible first | exact HB.out | apply below_alloc | apply pw_below_drewN | apply below_drew1) | exact HB.out))) : w.heap.size ≤ gb133)); have n3_ := Aside0.mk ((by rw [hg]; exact (below_size (by repeat (first | (with_reducible first | exact HB.out | apply below_alloc | apply pw_below_drewN | apply below_drew1) | exact HB.out))) : w.heap.size ≤ gb133)); clear HB; have HB := n0_; have BK133 := n1_; have GW133 := n2_; have GE133 := n3_; clear n0_ n1_ n2_ n3_; clear hb hbox hg; have hcz11_0 : w10.cell? ⟨gb133, 0, none⟩ = some (.int .i64 0) := (blk_cell BK133.out 0).trans rfl; have hcz11_1 : w10.cell? ⟨gb133, 1, none⟩ = some (.bool false) := (blk_cell BK133.out 1).trans rfl; have hfz11_0 := blk_frozen BK133.out 0; have hfz11_1 := blk_frozen BK133.out 1))
                  repeat (go_quiet (first | ((with_reducible refine gate_dst (N := 4) rfl ?_); refine box_event ?hg (N := 4) ?hd (cs := #[.int .i64 0, .bool false]) (t := 32) ?hr ?_; (case hd => rfl); (case hg => rfl); (case hr => first | (go_simp; done) | (go_simp; rfl)); intro gb133 hg w10 hbox hb; have n0_ := Aside0.mk (below_step (by repeat (first | (with_reducible first | exact HB.out | apply below_alloc | apply pw_below_drewN | apply below_drew1) | exact HB.out)) hb); have n1_ := Aside0.mk (hbox); have n2_ := Aside0.mk ((by rw [hg]; exact (below_size (by repeat (first | (with_reducible first | exact HB.out | apply below_alloc | apply pw_below_drewN | apply below_drew1) | exact HB.out))) : w.heap.size ≤ gb133)); have n3_ := Aside0.mk ((by rw [hg]; exact (below_size (by repeat (first | (with_reducible first | exact HB.out | apply below_alloc | apply pw_below_drewN | apply below_drew1) | exact HB.out))) : w.heap.size ≤ gb133)); clear HB; have HB := n0_; have BK133 := n1_; have GW133 := n2_; have GE133 := n3_; clear n0_ n1_ n2_ n3_; clear hb hbox hg; have hcz11_0 : w10.cell? ⟨gb133, 0, none⟩ = some (.int .i64 0) := (blk_cell BK133.out 0).trans rfl; have hcz11_1 : w10.cell? ⟨gb133, 1, none⟩ = some (.bool false) := (blk_cell BK133.out 1).trans rfl; have hfz11_0 := blk_frozen BK133.out 0; have hfz11_1 := blk_frozen BK133.out 1)); try go_wp2_with (first | ((with_reducible refine gate_dst (N := 4) rfl ?_); refine box_event ?hg (N := 4) ?hd (cs := #[.int .i64 0, .bool false]) (t := 32) ?hr ?_; (case hd => rfl); (case hg => rfl); (case hr => first | (go_simp; done) | (go_simp; rfl)); intro gb133 hg w10 hbox hb; have n0_ := Aside0.mk (below_step (by repeat (first | (with_reducible first | exact HB.out | apply below_alloc | apply pw_below_drewN | apply below_drew1) | exact HB.out)) hb); have n1_ := Aside0.mk (hbox); have n2_ := Aside0.mk ((by rw [hg]; exact (below_size (by repeat (first | (with_reducible first | exact HB.out | apply below_alloc | apply pw_below_drewN | apply below_drew1) | exact HB.out))) : w.heap.size ≤ gb133)); have n3_ := Aside0.mk ((by rw [hg]; exact (below_size (by repeat (first | (with_reducible first | exact HB.out | apply below_alloc | apply pw_below_drewN | apply below_drew1) | exact HB.out))) : w.heap.size ≤ gb133)); clear HB; have HB := n0_; have BK133 := n1_; have GW133 := n2_; have GE133 := n3_; clear n0_ n1_ n2_ n3_; clear hb hbox hg; have hcz11_0 : w10.cell? ⟨gb133, 0, none⟩ = some (.int .i64 0) := (blk_cell BK133.out 0).trans rfl; have hcz11_1 : w10.cell? ⟨gb133, 1, none⟩ = some (.bool false) := (blk_cell BK133.out 1).trans rfl; have hfz11_0 := blk_frozen BK133.out 0; have hfz11_1 := blk_frozen BK133.out 1)))
                  go_ret
                  exact ⟨by first | rfl | (simp [errW_none, errW_some] <;> rfl) | (simp [*, errW_none, errW_some] <;> rfl), by repeat (first | (with_reducible first | exact HB.out | apply below_alloc | apply pw_below_drewN | apply below_drew1 | refine below_set ?_ GE133.out) | exact HB.out)⟩
                · rw [if_neg c9] at H
                  have c9b0 : decide (1099511627776 < ((rd_T32 l0 x10_1).f0)) = false := decide_eq_false c9
                  clear c9
                  by_cases c12 : x10_1 > 0
                  · rw [if_pos c12] at H
                    have c12b0 : decide (0 < x10_1) = true := decide_eq_true c12
                    clear c12
                    obtain ⟨ji13, hji13⟩ : ∃ j_ : Int, (wrap64 (x10_1 - 1)) = j_ := ⟨_, rfl⟩
                    replace H : (if 0 ≤ (ji13) then (if (ji13) < (l0.length : Int) then (if ((rd_T32 l0 (ji13)).f0) ≤ ((rd_T32 l0 x10_1).f0) then (some false) else (spec_Backwards.l0 k1 l0 l0 (l0.length : Int) (wrap64 (x10_1 + 1)))) else (none)) else (none)) = some r := by first | (rw [hji13] at H; exact H) | (simp only [hji13] at H ⊢; exact H)
                    have hji13w : (IntKind.i64.wrap (x10_1 - 1)) = ji13 := (i64_w _).trans hji13
                    by_cases c14 : 0 ≤ (ji13)
                    · rw [if_pos c14] at H
                      have c14b0 : decide (0 ≤ (ji13)) = true := decide_eq_true c14
                      clear c14
                      by_cases c15 : (ji13) < (l0.length : Int)
                      · rw [if_pos c15] at H
                        have c15b0 : decide ((ji13) < (l0.length : Int)) = true := decide_eq_true c15
                        clear c15
                        by_cases c16 : ((rd_T32 l0 (ji13)).f0) ≤ ((rd_T32 l0 x10_1).f0)
                        · rw [if_pos c16] at H
                          have c16b0 : decide (((rd_T32 l0 (ji13)).f0) ≤ ((rd_T32 l0 x10_1).f0)) = true := decide_eq_true c16
                          clear c16
                          obtain rfl := Option.some.inj H
                          have p132 : 0 ≤ (x10_1 : Int) := of_decide_eq_true (by first | (with_reducible assumption) | assumption)
                          have q132 : x10_1 < (l0.length : Int) := of_decide_eq_true (by first | (with_reducible assumption) | assumption)
                          obtain ⟨ad132, e132, hx132_0, hx132_1⟩ := at_T32 HR0.out x10_1 p132 q132
                          cases e132
                          replace hx132_0 := (HB.out.cell (World.block_lt_of_cell? w _ hx132_0)).trans hx132_0
                          replace hx132_1 := (HB.out.cell (World.block_lt_of_cell? w _ hx132_1)).trans hx132_1
                          replace p132 := eq_true p132
                          replace q132 := eq_true q132
                          go_wp2_with (first | ((with_reducible refine gate_dst (N := 4) rfl ?_); refine box_event ?hg (N := 4) ?hd (cs := #[.int .i64 0, .bool false]) (t := 32) ?hr ?_; (case hd => rfl); (case hg => rfl); (case hr => first | (go_simp; done) | (go_simp; rfl)); intro gb133 hg w17 hbox hb; have n0_ := Aside0.mk (below_step (by repeat (first | (with_reducible first | exact HB.out | apply below_alloc | apply pw_below_drewN | apply below_drew1) | exact HB.out)) hb); have n1_ := Aside0.mk (hbox); have n2_ := Aside0.mk ((by rw [hg]; exact (below_size (by repeat (first | (with_reducible first | exact HB.out | apply below_alloc | apply pw_below_drewN | apply below_drew1) | exact HB.out))) : w.heap.size ≤ gb133)); have n3_ := Aside0.mk ((by rw [hg]; exact (below_size (by repeat (first | (with_reducible first | exact HB.out | apply below_alloc | apply pw_below_drewN | apply below_drew1) | exact HB.out))) : w.heap.size ≤ gb133)); clear HB; have HB := n0_; have BK133 := n1_; have GW133 := n2_; have GE133 := n3_; clear n0_ n1_ n2_ n3_; clear hb hbox hg; have hcz18_0 : w17.cell? ⟨gb133, 0, none⟩ = some (.int .i64 0) := (blk_cell BK133.out 0).trans rfl; have hcz18_1 : w17.cell? ⟨gb133, 1, none⟩ = some (.bool false) := (blk_cell BK133.out 1).trans rfl; have hfz18_0 := blk_frozen BK133.out 0; have hfz18_1 := blk_frozen BK133.out 1; have p134 : 0 ≤ ((ji13) : Int) := of_decide_eq_true (by first | (with_reducible assumption) | assumption); have q134 : (ji13) < (l0.length : Int) := of_decide_eq_true (by first | (with_reducible assumption) | assumption); obtain ⟨ad134, e134, hx134_0, hx134_1⟩ := at_T32 HR0.out (ji13) p134 q134; obtain rfl : ad132 = ad134 := (by injection e134); have hn134_0 : ad132.block ≠ gb133 := Nat.ne_of_lt (Nat.lt_of_lt_of_le (by have := World.block_lt_of_cell? _ _ hx134_0; first | rwa [add_block] at this | exact this) GW133.out); have hn134_1 : ad132.block ≠ gb133 := Nat.ne_of_lt (Nat.lt_of_lt_of_le (by have := World.block_lt_of_cell? _ _ hx134_0; first | rwa [add_block] at this | exact this) GW133.out); replace hx134_0 := (HB.out.cell (World.block_lt_of_cell? w _ hx134_0)).trans hx134_0; replace hx134_1 := (HB.out.cell (World.block_lt_of_cell? w _ hx134_1)).trans hx134_1; replace hx134_0 := (cell_far (p := ⟨gb133, 0, none⟩) (by first | (rw [add_block]; exact hn134_0) | (show (Addr.add _ _).block ≠ _; rw [add_block]; exact hn134_0) | exact hn134_0) (.int .i64 ((rd_T32 l0 x10_1).f0))).trans hx134_0; replace hx134_1 := (cell_far (p := ⟨gb133, 0, none⟩) (by first | (rw [add_block]; exact hn134_0) | (show (Addr.add _ _).block ≠ _; rw [add_block]; exact hn134_0) | exact hn134_0) (.int .i64 ((rd_T32 l0 x10_1).f0))).trans hx134_1; replace hx134_0 := (cell_far (p := ⟨gb133, 1, none⟩) (by first | (rw [add_block]; exact hn134_1) | (show (Addr.add _ _).block ≠ _; rw [add_block]; exact hn134_1) | exact hn134_1) (.bool ((rd_T32 l0 x10_1).f1))).trans hx134_0; replace hx134_1 := (cell_far (p := ⟨gb133, 1, none⟩) (by first | (rw [add_block]; exact hn134_1) | (show (Addr.add _ _).block ≠ _; rw [add_block]; exact hn134_1) | exact hn134_1) (.bool ((rd_T32 l0 x10_1).f1))).trans hx134_1; (try have hy134_0 := fun (n_ : Nat) => (show ((((w17.drewN n_).setCell ⟨gb133, 0, none⟩ (.int .i64 ((rd_T32 l0 x10_1).f0))).setCell ⟨gb133, 1, none⟩ (.bool ((rd_T32 l0 x10_1).f1)))).cell? _ = some _ from hx134_0)); (try have hy134_1 := fun (n_ : Nat) => (show ((((w17.drewN n_).setCell ⟨gb133, 0, none⟩ (.int .i64 ((rd_T32 l0 x10_1).f0))).setCell ⟨gb133, 1, none⟩ (.bool ((rd_T32 l0 x10_1).f1)))).cell? _ = some _ from hx134_1)); clear hn134_0; clear hn134_1; replace p134 := eq_true p134; replace q134 := eq_true q134))
                          repeat (go_quiet (first | ((with_reducible refine gate_dst (N := 4) rfl ?_); refine box_event ?hg (N := 4) ?hd (cs := #[.int .i64 0, .bool false]) (t := 32) ?hr ?_; (case hd => rfl); (case hg => rfl); (case hr => first | (go_simp; done) | (go_simp; rfl)); intro gb133 hg w17 hbox hb; have n0_ := Aside0.mk (below_step (by repeat (first | (with_reducible first | exact HB.out | apply below_alloc | apply pw_below_drewN | apply below_drew1) | exact HB.out)) hb); have n1_ := Aside0.mk (hbox); have n2_ := Aside0.mk ((by rw [hg]; exact (below_size (by repeat (first | (with_reducible first | exact HB.out | apply below_alloc | apply pw_below_drewN | apply below_drew1) | exact HB.out))) : w.heap.size ≤ gb133)); have n3_ := Aside0.mk ((by rw [hg]; exact (below_size (by repeat (first | (with_reducible first | exact HB.out | apply below_alloc | apply pw_below_drewN | apply below_drew1) | exact HB.out))) : w.heap.size ≤ gb133)); clear HB; have HB := n0_; have BK133 := n1_; have GW133 := n2_; have GE133 := n3_; clear n0_ n1_ n2_ n3_; clear hb hbox hg; have hcz18_0 : w17.cell? ⟨gb133, 0, none⟩ = some (.int .i64 0) := (blk_cell BK133.out 0).trans rfl; have hcz18_1 : w17.cell? ⟨gb133, 1, none⟩ = some (.bool false) := (blk_cell BK133.out 1).trans rfl; have hfz18_0 := blk_frozen BK133.out 0; have hfz18_1 := blk_frozen BK133.out 1; have p134 : 0 ≤ ((ji13) : Int) := of_decide_eq_true (by first | (with_reducible assumption) | assumption); have q134 : (ji13) < (l0.length : Int) := of_decide_eq_true (by first | (with_reducible assumption) | assumption); obtain ⟨ad134, e134, hx134_0, hx134_1⟩ := at_T32 HR0.out (ji13) p134 q134; obtain rfl : ad132 = ad134 := (by injection e134); have hn134_0 : ad132.block ≠ gb133 := Nat.ne_of_lt (Nat.lt_of_lt_of_le (by have := World.block_lt_of_cell? _ _ hx134_0; first | rwa [add_block] at this | exact this) GW133.out); have hn134_1 : ad132.block ≠ gb133 := Nat.ne_of_lt (Nat.lt_of_lt_of_le (by have := World.block_lt_of_cell? _ _ hx134_0; first | rwa [add_block] at this | exact this) GW133.out); replace hx134_0 := (HB.out.cell (World.block_lt_of_cell? w _ hx134_0)).trans hx134_0; replace hx134_1 := (HB.out.cell (World.block_lt_of_cell? w _ hx134_1)).trans hx134_1; replace hx134_0 := (cell_far (p := ⟨gb133, 0, none⟩) (by first | (rw [add_block]; exact hn134_0) | (show (Addr.add _ _).block ≠ _; rw [add_block]; exact hn134_0) | exact hn134_0) (.int .i64 ((rd_T32 l0 x10_1).f0))).trans hx134_0; replace hx134_1 := (cell_far (p := ⟨gb133, 0, none⟩) (by first | (rw [add_block]; exact hn134_0) | (show (Addr.add _ _).block ≠ _; rw [add_block]; exact hn134_0) | exact hn134_0) (.int .i64 ((rd_T32 l0 x10_1).f0))).trans hx134_1; replace hx134_0 := (cell_far (p := ⟨gb133, 1, none⟩) (by first | (rw [add_block]; exact hn134_1) | (show (Addr.add _ _).block ≠ _; rw [add_block]; exact hn134_1) | exact hn134_1) (.bool ((rd_T32 l0 x10_1).f1))).trans hx134_0; replace hx134_1 := (cell_far (p := ⟨gb133, 1, none⟩) (by first | (rw [add_block]; exact hn134_1) | (show (Addr.add _ _).block ≠ _; rw [add_block]; exact hn134_1) | exact hn134_1) (.bool ((rd_T32 l0 x10_1).f1))).trans hx134_1; (try have hy134_0 := fun (n_ : Nat) => (show ((((w17.drewN n_).setCell ⟨gb133, 0, none⟩ (.int .i64 ((rd_T32 l0 x10_1).f0))).setCell ⟨gb133, 1, none⟩ (.bool ((rd_T32 l0 x10_1).f1)))).cell? _ = some _ from hx134_0)); (try have hy134_1 := fun (n_ : Nat) => (show ((((w17.drewN n_).setCell ⟨gb133, 0, none⟩ (.int .i64 ((rd_T32 l0 x10_1).f0))).setCell ⟨gb133, 1, none⟩ (.bool ((rd_T32 l0 x10_1).f1)))).cell? _ = some _ from hx134_1)); clear hn134_0; clear hn134_1; replace p134 := eq_true p134; replace q134 := eq_true q134)); try go_wp2_with (first | ((with_reducible refine gate_dst (N := 4) rfl ?_); refine box_event ?hg (N := 4) ?hd (cs := #[.int .i64 0, .bool false]) (t := 32) ?hr ?_; (case hd => rfl); (case hg => rfl); (case hr => first | (go_simp; done) | (go_simp; rfl)); intro gb133 hg w17 hbox hb; have n0_ := Aside0.mk (below_step (by repeat (first | (with_reducible first | exact HB.out | apply below_alloc | apply pw_below_drewN | apply below_drew1) | exact HB.out)) hb); have n1_ := Aside0.mk (hbox); have n2_ := Aside0.mk ((by rw [hg]; exact (below_size (by repeat (first | (with_reducible first | exact HB.out | apply below_alloc | apply pw_below_drewN | apply below_drew1) | exact HB.out))) : w.heap.size ≤ gb133)); have n3_ := Aside0.mk ((by rw [hg]; exact (below_size (by repeat (first | (with_reducible first | exact HB.out | apply below_alloc | apply pw_below_drewN | apply below_drew1) | exact HB.out))) : w.heap.size ≤ gb133)); clear HB; have HB := n0_; have BK133 := n1_; have GW133 := n2_; have GE133 := n3_; clear n0_ n1_ n2_ n3_; clear hb hbox hg; have hcz18_0 : w17.cell? ⟨gb133, 0, none⟩ = some (.int .i64 0) := (blk_cell BK133.out 0).trans rfl; have hcz18_1 : w17.cell? ⟨gb133, 1, none⟩ = some (.bool false) := (blk_cell BK133.out 1).trans rfl; have hfz18_0 := blk_frozen BK133.out 0; have hfz18_1 := blk_frozen BK133.out 1; have p134 : 0 ≤ ((ji13) : Int) := of_decide_eq_true (by first | (with_reducible assumption) | assumption); have q134 : (ji13) < (l0.length : Int) := of_decide_eq_true (by first | (with_reducible assumption) | assumption); obtain ⟨ad134, e134, hx134_0, hx134_1⟩ := at_T32 HR0.out (ji13) p134 q134; obtain rfl : ad132 = ad134 := (by injection e134); have hn134_0 : ad132.block ≠ gb133 := Nat.ne_of_lt (Nat.lt_of_lt_of_le (by have := World.block_lt_of_cell? _ _ hx134_0; first | rwa [add_block] at this | exact this) GW133.out); have hn134_1 : ad132.block ≠ gb133 := Nat.ne_of_lt (Nat.lt_of_lt_of_le (by have := World.block_lt_of_cell? _ _ hx134_0; first | rwa [add_block] at this | exact this) GW133.out); replace hx134_0 := (HB.out.cell (World.block_lt_of_cell? w _ hx134_0)).trans hx134_0; replace hx134_1 := (HB.out.cell (World.block_lt_of_cell? w _ hx134_1)).trans hx134_1; replace hx134_0 := (cell_far (p := ⟨gb133, 0, none⟩) (by first | (rw [add_block]; exact hn134_0) | (show (Addr.add _ _).block ≠ _; rw [add_block]; exact hn134_0) | exact hn134_0) (.int .i64 ((rd_T32 l0 x10_1).f0))).trans hx134_0; replace hx134_1 := (cell_far (p := ⟨gb133, 0, none⟩) (by first | (rw [add_block]; exact hn134_0) | (show (Addr.add _ _).block ≠ _; rw [add_block]; exact hn134_0) | exact hn134_0) (.int .i64 ((rd_T32 l0 x10_1).f0))).trans hx134_1; replace hx134_0 := (cell_far (p := ⟨gb133, 1, none⟩) (by first | (rw [add_block]; exact hn134_1) | (show (Addr.add _ _).block ≠ _; rw [add_block]; exact hn134_1) | exact hn134_1) (.bool ((rd_T32 l0 x10_1).f1))).trans hx134_0; replace hx134_1 := (cell_far (p := ⟨gb133, 1, none⟩) (by first | (rw [add_block]; exact hn134_1) | (show (Addr.add _ _).block ≠ _; rw [add_block]; exact hn134_1) | exact hn134_1) (.bool ((rd_T32 l0 x10_1).f1))).trans hx134_1; (try have hy134_0 := fun (n_ : Nat) => (show ((((w17.drewN n_).setCell ⟨gb133, 0, none⟩ (.int .i64 ((rd_T32 l0 x10_1).f0))).setCell ⟨gb133, 1, none⟩ (.bool ((rd_T32 l0 x10_1).f1)))).cell? _ = some _ from hx134_0)); (try have hy134_1 := fun (n_ : Nat) => (show ((((w17.drewN n_).setCell ⟨gb133, 0, none⟩ (.int .i64 ((rd_T32 l0 x10_1).f0))).setCell ⟨gb133, 1, none⟩ (.bool ((rd_T32 l0 x10_1).f1)))).cell? _ = some _ from hx134_1)); clear hn134_0; clear hn134_1; replace p134 := eq_true p134; replace q134 := eq_true q134)))
                          go_ret
                          exact ⟨by first | rfl | (simp [errW_none, errW_some] <;> rfl) | (simp only [← hji13]; first | rfl | (simp [errW_none, errW_some] <;> rfl)) | (simp [*, errW_none, errW_some] <;> rfl), by repeat (first | (with_reducible first | exact HB.out | apply below_alloc | apply pw_below_drewN | apply below_drew1 | refine below_set ?_ GE133.out) | exact HB.out)⟩
                        · rw [if_neg c16] at H
                          have c16b0 : decide (((rd_T32 l0 (ji13)).f0) ≤ ((rd_T32 l0 x10_1).f0)) = false := decide_eq_false c16
                          clear c16
                          have H' := Aside0.mk H
                          clear H
                          have p132 : 0 ≤ (x10_1 : Int) := of_decide_eq_true (by first | (with_reducible assumption) | assumption)
                          have q132 : x10_1 < (l0.length : Int) := of_decide_eq_true (by first | (with_reducible assumption) | assumption)
                          obtain ⟨ad132, e132, hx132_0, hx132_1⟩ := at_T32 HR0.out x10_1 p132 q132
                          cases e132
                          replace hx132_0 := (HB.out.cell (World.block_lt_of_cell? w _ hx132_0)).trans hx132_0
                          replace hx132_1 := (HB.out.cell (World.block_lt_of_cell? w _ hx132_1)).trans hx132_1
                          replace p132 := eq_true p132
                          replace q132 := eq_true q132
                          go_wp2_with (first | ((with_reducible refine gate_dst (N := 4) rfl ?_); refine box_event ?hg (N := 4) ?hd (cs := #[.int .i64 0, .bool false]) (t := 32) ?hr ?_; (case hd => rfl); (case hg => rfl); (case hr => first | (go_simp; done) | (go_simp; rfl)); intro gb133 hg w19 hbox hb; have n0_ := Aside0.mk (below_step (by repeat (first | (with_reducible first | exact HB.out | apply below_alloc | apply pw_below_drewN | apply below_drew1) | exact HB.out)) hb); have n1_ := Aside0.mk (hbox); have n2_ := Aside0.mk ((by rw [hg]; exact (below_size (by repeat (first | (with_reducible first | exact HB.out | apply below_alloc | apply pw_below_drewN | apply below_drew1) | exact HB.out))) : w.heap.size ≤ gb133)); have n3_ := Aside0.mk ((by rw [hg]; exact (below_size (by repeat (first | (with_reducible first | exact HB.out | apply below_alloc | apply pw_below_drewN | apply below_drew1) | exact HB.out))) : w.heap.size ≤ gb133)); clear HB; have HB := n0_; have BK133 := n1_; have GW133 := n2_; have GE133 := n3_; clear n0_ n1_ n2_ n3_; clear hb hbox hg; have hcz20_0 : w19.cell? ⟨gb133, 0, none⟩ = some (.int .i64 0) := (blk_cell BK133.out 0).trans rfl; have hcz20_1 : w19.cell? ⟨gb133, 1, none⟩ = some (.bool false) := (blk_cell BK133.out 1).trans rfl; have hfz20_0 := blk_frozen BK133.out 0; have hfz20_1 := blk_frozen BK133.out 1; have p134 : 0 ≤ ((ji13) : Int) := of_decide_eq_true (by first | (with_reducible assumption) | assumption); have q134 : (ji13) < (l0.length : Int) := of_decide_eq_true (by first | (with_reducible assumption) | assumption); obtain ⟨ad134, e134, hx134_0, hx134_1⟩ := at_T32 HR0.out (ji13) p134 q134; obtain rfl : ad132 = ad134 := (by injection e134); have hn134_0 : ad132.block ≠ gb133 := Nat.ne_of_lt (Nat.lt_of_lt_of_le (by have := World.block_lt_of_cell? _ _ hx134_0; first | rwa [add_block] at this | exact this) GW133.out); have hn134_1 : ad132.block ≠ gb133 := Nat.ne_of_lt (Nat.lt_of_lt_of_le (by have := World.block_lt_of_cell? _ _ hx134_0; first | rwa [add_block] at this | exact this) GW133.out); replace hx134_0 := (HB.out.cell (World.block_lt_of_cell? w _ hx134_0)).trans hx134_0; replace hx134_1 := (HB.out.cell (World.block_lt_of_cell? w _ hx134_1)).trans hx134_1; replace hx134_0 := (cell_far (p := ⟨gb133, 0, none⟩) (by first | (rw [add_block]; exact hn134_0) | (show (Addr.add _ _).block ≠ _; rw [add_block]; exact hn134_0) | exact hn134_0) (.int .i64 ((rd_T32 l0 x10_1).f0))).trans hx134_0; replace hx134_1 := (cell_far (p := ⟨gb133, 0, none⟩) (by first | (rw [add_block]; exact hn134_0) | (show (Addr.add _ _).block ≠ _; rw [add_block]; exact hn134_0) | exact hn134_0) (.int .i64 ((rd_T32 l0 x10_1).f0))).trans hx134_1; replace hx134_0 := (cell_far (p := ⟨gb133, 1, none⟩) (by first | (rw [add_block]; exact hn134_1) | (show (Addr.add _ _).block ≠ _; rw [add_block]; exact hn134_1) | exact hn134_1) (.bool ((rd_T32 l0 x10_1).f1))).trans hx134_0; replace hx134_1 := (cell_far (p := ⟨gb133, 1, none⟩) (by first | (rw [add_block]; exact hn134_1) | (show (Addr.add _ _).block ≠ _; rw [add_block]; exact hn134_1) | exact hn134_1) (.bool ((rd_T32 l0 x10_1).f1))).trans hx134_1; (try have hy134_0 := fun (n_ : Nat) => (show ((((w19.drewN n_).setCell ⟨gb133, 0, none⟩ (.int .i64 ((rd_T32 l0 x10_1).f0))).setCell ⟨gb133, 1, none⟩ (.bool ((rd_T32 l0 x10_1).f1)))).cell? _ = some _ from hx134_0)); (try have hy134_1 := fun (n_ : Nat) => (show ((((w19.drewN n_).setCell ⟨gb133, 0, none⟩ (.int .i64 ((rd_T32 l0 x10_1).f0))).setCell ⟨gb133, 1, none⟩ (.bool ((rd_T32 l0 x10_1).f1)))).cell? _ = some _ from hx134_1)); clear hn134_0; clear hn134_1; replace p134 := eq_true p134; replace q134 := eq_true q134))
                          repeat (go_quiet (first | ((with_reducible refine gate_dst (N := 4) rfl ?_); refine box_event ?hg (N := 4) ?hd (cs := #[.int .i64 0, .bool false]) (t := 32) ?hr ?_; (case hd => rfl); (case hg => rfl); (case hr => first | (go_simp; done) | (go_simp; rfl)); intro gb133 hg w19 hbox hb; have n0_ := Aside0.mk (below_step (by repeat (first | (with_reducible first | exact HB.out | apply below_alloc | apply pw_below_drewN | apply below_drew1) | exact HB.out)) hb); have n1_ := Aside0.mk (hbox); have n2_ := Aside0.mk ((by rw [hg]; exact (below_size (by repeat (first | (with_reducible first | exact HB.out | apply below_alloc | apply pw_below_drewN | apply below_drew1) | exact HB.out))) : w.heap.size ≤ gb133)); have n3_ := Aside0.mk ((by rw [hg]; exact (below_size (by repeat (first | (with_reducible first | exact HB.out | apply below_alloc | apply pw_below_drewN | apply below_drew1) | exact HB.out))) : w.heap.size ≤ gb133)); clear HB; have HB := n0_; have BK133 := n1_; have GW133 := n2_; have GE133 := n3_; clear n0_ n1_ n2_ n3_; clear hb hbox hg; have hcz20_0 : w19.cell? ⟨gb133, 0, none⟩ = some (.int .i64 0) := (blk_cell BK133.out 0).trans rfl; have hcz20_1 : w19.cell? ⟨gb133, 1, none⟩ = some (.bool false) := (blk_cell BK133.out 1).trans rfl; have hfz20_0 := blk_frozen BK133.out 0; have hfz20_1 := blk_frozen BK133.out 1; have p134 : 0 ≤ ((ji13) : Int) := of_decide_eq_true (by first | (with_reducible assumption) | assumption); have q134 : (ji13) < (l0.length : Int) := of_decide_eq_true (by first | (with_reducible assumption) | assumption); obtain ⟨ad134, e134, hx134_0, hx134_1⟩ := at_T32 HR0.out (ji13) p134 q134; obtain rfl : ad132 = ad134 := (by injection e134); have hn134_0 : ad132.block ≠ gb133 := Nat.ne_of_lt (Nat.lt_of_lt_of_le (by have := World.block_lt_of_cell? _ _ hx134_0; first | rwa [add_block] at this | exact this) GW133.out); have hn134_1 : ad132.block ≠ gb133 := Nat.ne_of_lt (Nat.lt_of_lt_of_le (by have := World.block_lt_of_cell? _ _ hx134_0; first | rwa [add_block] at this | exact this) GW133.out); replace hx134_0 := (HB.out.cell (World.block_lt_of_cell? w _ hx134_0)).trans hx134_0; replace hx134_1 := (HB.out.cell (World.block_lt_of_cell? w _ hx134_1)).trans hx134_1; replace hx134_0 := (cell_far (p := ⟨gb133, 0, none⟩) (by first | (rw [add_block]; exact hn134_0) | (show (Addr.add _ _).block ≠ _; rw [add_block]; exact hn134_0) | exact hn134_0) (.int .i64 ((rd_T32 l0 x10_1).f0))).trans hx134_0; replace hx134_1 := (cell_far (p := ⟨gb133, 0, none⟩) (by first | (rw [add_block]; exact hn134_0) | (show (Addr.add _ _).block ≠ _; rw [add_block]; exact hn134_0) | exact hn134_0) (.int .i64 ((rd_T32 l0 x10_1).f0))).trans hx134_1; replace hx134_0 := (cell_far (p := ⟨gb133, 1, none⟩) (by first | (rw [add_block]; exact hn134_1) | (show (Addr.add _ _).block ≠ _; rw [add_block]; exact hn134_1) | exact hn134_1) (.bool ((rd_T32 l0 x10_1).f1))).trans hx134_0; replace hx134_1 := (cell_far (p := ⟨gb133, 1, none⟩) (by first | (rw [add_block]; exact hn134_1) | (show (Addr.add _ _).block ≠ _; rw [add_block]; exact hn134_1) | exact hn134_1) (.bool ((rd_T32 l0 x10_1).f1))).trans hx134_1; (try have hy134_0 := fun (n_ : Nat) => (show ((((w19.drewN n_).setCell ⟨gb133, 0, none⟩ (.int .i64 ((rd_T32 l0 x10_1).f0))).setCell ⟨gb133, 1, none⟩ (.bool ((rd_T32 l0 x10_1).f1)))).cell? _ = some _ from hx134_0)); (try have hy134_1 := fun (n_ : Nat) => (show ((((w19.drewN n_).setCell ⟨gb133, 0, none⟩ (.int .i64 ((rd_T32 l0 x10_1).f0))).setCell ⟨gb133, 1, none⟩ (.bool ((rd_T32 l0 x10_1).f1)))).cell? _ = some _ from hx134_1)); clear hn134_0; clear hn134_1; replace p134 := eq_true p134; replace q134 := eq_true q134)); try go_wp2_with (first | ((with_reducible refine gate_dst (N := 4) rfl ?_); refine box_event ?hg (N := 4) ?hd (cs := #[.int .i64 0, .bool false]) (t := 32) ?hr ?_; (case hd => rfl); (case hg => rfl); (case hr => first | (go_simp; done) | (go_simp; rfl)); intro gb133 hg w19 hbox hb; have n0_ := Aside0.mk (below_step (by repeat (first | (with_reducible first | exact HB.out | apply below_alloc | apply pw_below_drewN | apply below_drew1) | exact HB.out)) hb); have n1_ := Aside0.mk (hbox); have n2_ := Aside0.mk ((by rw [hg]; exact (below_size (by repeat (first | (with_reducible first | exact HB.out | apply below_alloc | apply pw_below_drewN | apply below_drew1) | exact HB.out))) : w.heap.size ≤ gb133)); have n3_ := Aside0.mk ((by rw [hg]; exact (below_size (by repeat (first | (with_reducible first | exact HB.out | apply below_alloc | apply pw_below_drewN | apply below_drew1) | exact HB.out))) : w.heap.size ≤ gb133)); clear HB; have HB := n0_; have BK133 := n1_; have GW133 := n2_; have GE133 := n3_; clear n0_ n1_ n2_ n3_; clear hb hbox hg; have hcz20_0 : w19.cell? ⟨gb133, 0, none⟩ = some (.int .i64 0) := (blk_cell BK133.out 0).trans rfl; have hcz20_1 : w19.cell? ⟨gb133, 1, none⟩ = some (.bool false) := (blk_cell BK133.out 1).trans rfl; have hfz20_0 := blk_frozen BK133.out 0; have hfz20_1 := blk_frozen BK133.out 1; have p134 : 0 ≤ ((ji13) : Int) := of_decide_eq_true (by first | (with_reducible assumption) | assumption); have q134 : (ji13) < (l0.length : Int) := of_decide_eq_true (by first | (with_reducible assumption) | assumption); obtain ⟨ad134, e134, hx134_0, hx134_1⟩ := at_T32 HR0.out (ji13) p134 q134; obtain rfl : ad132 = ad134 := (by injection e134); have hn134_0 : ad132.block ≠ gb133 := Nat.ne_of_lt (Nat.lt_of_lt_of_le (by have := World.block_lt_of_cell? _ _ hx134_0; first | rwa [add_block] at this | exact this) GW133.out); have hn134_1 : ad132.block ≠ gb133 := Nat.ne_of_lt (Nat.lt_of_lt_of_le (by have := World.block_lt_of_cell? _ _ hx134_0; first | rwa [add_block] at this | exact this) GW133.out); replace hx134_0 := (HB.out.cell (World.block_lt_of_cell? w _ hx134_0)).trans hx134_0; replace hx134_1 := (HB.out.cell (World.block_lt_of_cell? w _ hx134_1)).trans hx134_1; replace hx134_0 := (cell_far (p := ⟨gb133, 0, none⟩) (by first | (rw [add_block]; exact hn134_0) | (show (Addr.add _ _).block ≠ _; rw [add_block]; exact hn134_0) | exact hn134_0) (.int .i64 ((rd_T32 l0 x10_1).f0))).trans hx134_0; replace hx134_1 := (cell_far (p := ⟨gb133, 0, none⟩) (by first | (rw [add_block]; exact hn134_0) | (show (Addr.add _ _).block ≠ _; rw [add_block]; exact hn134_0) | exact hn134_0) (.int .i64 ((rd_T32 l0 x10_1).f0))).trans hx134_1; replace hx134_0 := (cell_far (p := ⟨gb133, 1, none⟩) (by first | (rw [add_block]; exact hn134_1) | (show (Addr.add _ _).block ≠ _; rw [add_block]; exact hn134_1) | exact hn134_1) (.bool ((rd_T32 l0 x10_1).f1))).trans hx134_0; replace hx134_1 := (cell_far (p := ⟨gb133, 1, none⟩) (by first | (rw [add_block]; exact hn134_1) | (show (Addr.add _ _).block ≠ _; rw [add_block]; exact hn134_1) | exact hn134_1) (.bool ((rd_T32 l0 x10_1).f1))).trans hx134_1; (try have hy134_0 := fun (n_ : Nat) => (show ((((w19.drewN n_).setCell ⟨gb133, 0, none⟩ (.int .i64 ((rd_T32 l0 x10_1).f0))).setCell ⟨gb133, 1, none⟩ (.bool ((rd_T32 l0 x10_1).f1)))).cell? _ = some _ from hx134_0)); (try have hy134_1 := fun (n_ : Nat) => (show ((((w19.drewN n_).setCell ⟨gb133, 0, none⟩ (.int .i64 ((rd_T32 l0 x10_1).f0))).setCell ⟨gb133, 1, none⟩ (.bool ((rd_T32 l0 x10_1).f1)))).cell? _ = some _ from hx134_1)); clear hn134_0; clear hn134_1; replace p134 := eq_true p134; replace q134 := eq_true q134)))
                          go_roundg k1
                          case measure => have := HK1.out; omega
                          case rel => exact ⟨(wrap64 (x10_1 + 1)), (by first | rfl | (simp; done) | (simp [*]; done)), H', ⟨by have := HK1.out; omega⟩, ⟨by repeat (first | (with_reducible first | exact HB.out | apply below_alloc | apply pw_below_drewN | apply below_drew1 | refine below_set ?_ GE133.out) | exact HB.out)⟩⟩
                      · rw [if_neg c15] at H
                        exact absurd H (by simp)
                    · rw [if_neg c14] at H
                      exact absurd H (by simp)
                  · rw [if_neg c12] at H
                    have c12b0 : decide (0 < x10_1) = false := decide_eq_false c12
                    clear c12
                    have H' := Aside0.mk H
                    clear H
                    have p132 : 0 ≤ (x10_1 : Int) := of_decide_eq_true (by first | (with_reducible assumption) | assumption)
                    have q132 : x10_1 < (l0.length : Int) := of_decide_eq_true (by first | (with_reducible assumption) | assumption)
                    obtain ⟨ad132, e132, hx132_0, hx132_1⟩ := at_T32 HR0.out x10_1 p132 q132
                    cases e132
                    replace hx132_0 := (HB.out.cell (World.block_lt_of_cell? w _ hx132_0)).trans hx132_0
                    replace hx132_1 := (HB.out.cell (World.block_lt_of_cell? w _ hx132_1)).trans hx132_1
                    replace p132 := eq_true p132
                    replace q132 := eq_true q132
                    go_wp2_with (first | ((with_reducible refine gate_dst (N := 4) rfl ?_); refine box_event ?hg (N := 4) ?hd (cs := #[.int .i64 0, .bool false]) (t := 32) ?hr ?_; (case hd => rfl); (case hg => rfl); (case hr => first | (go_simp; done) | (go_simp; rfl)); intro gb133 hg w21 hbox hb; have n0_ := Aside0.mk (below_step (by repeat (first | (with_reducible first | exact HB.out | apply below_alloc | apply pw_below_drewN | apply below_drew1) | exact HB.out)) hb); have n1_ := Aside0.mk (hbox); have n2_ := Aside0.mk ((by rw [hg]; exact (below_size (by repeat (first | (with_reducible first | exact HB.out | apply below_alloc | apply pw_below_drewN | apply below_drew1) | exact HB.out))) : w.heap.size ≤ gb133)); have n3_ := Aside0.mk ((by rw [hg]; exact (below_size (by repeat (first | (with_reducible first | exact HB.out | apply below_alloc | apply pw_below_drewN | apply below_drew1) | exact HB.out))) : w.heap.size ≤ gb133)); clear HB; have HB := n0_; have BK133 := n1_; have GW133 := n2_; have GE133 := n3_; clear n0_ n1_ n2_ n3_; clear hb hbox hg; have hcz22_0 : w21.cell? ⟨gb133, 0, none⟩ = some (.int .i64 0) := (blk_cell BK133.out 0).trans rfl; have hcz22_1 : w21.cell? ⟨gb133, 1, none⟩ = some (.bool false) := (blk_cell BK133.out 1).trans rfl; have hfz22_0 := blk_frozen BK133.out 0; have hfz22_1 := blk_frozen BK133.out 1))
                    repeat (go_quiet (first | ((with_reducible refine gate_dst (N := 4) rfl ?_); refine box_event ?hg (N := 4) ?hd (cs := #[.int .i64 0, .bool false]) (t := 32) ?hr ?_; (case hd => rfl); (case hg => rfl); (case hr => first | (go_simp; done) | (go_simp; rfl)); intro gb133 hg w21 hbox hb; have n0_ := Aside0.mk (below_step (by repeat (first | (with_reducible first | exact HB.out | apply below_alloc | apply pw_below_drewN | apply below_drew1) | exact HB.out)) hb); have n1_ := Aside0.mk (hbox); have n2_ := Aside0.mk ((by rw [hg]; exact (below_size (by repeat (first | (with_reducible first | exact HB.out | apply below_alloc | apply pw_below_drewN | apply below_drew1) | exact HB.out))) : w.heap.size ≤ gb133)); have n3_ := Aside0.mk ((by rw [hg]; exact (below_size (by repeat (first | (with_reducible first | exact HB.out | apply below_alloc | apply pw_below_drewN | apply below_drew1) | exact HB.out))) : w.heap.size ≤ gb133)); clear HB; have HB := n0_; have BK133 := n1_; have GW133 := n2_; have GE133 := n3_; clear n0_ n1_ n2_ n3_; clear hb hbox hg; have hcz22_0 : w21.cell? ⟨gb133, 0, none⟩ = some (.int .i64 0) := (blk_cell BK133.out 0).trans rfl; have hcz22_1 : w21.cell? ⟨gb133, 1, none⟩ = some (.bool false) := (blk_cell BK133.out 1).trans rfl; have hfz22_0 := blk_frozen BK133.out 0; have hfz22_1 := blk_frozen BK133.out 1)); try go_wp2_with (first | ((with_reducible refine gate_dst (N := 4) rfl ?_); refine box_event ?hg (N := 4) ?hd (cs := #[.int .i64 0, .bool false]) (t := 32) ?hr ?_; (case hd => rfl); (case hg => rfl); (case hr => first | (go_simp; done) | (go_simp; rfl)); intro gb133 hg w21 hbox hb; have n0_ := Aside0.mk (below_step (by repeat (first | (with_reducible first | exact HB.out | apply below_alloc | apply pw_below_drewN | apply below_drew1) | exact HB.out)) hb); have n1_ := Aside0.mk (hbox); have n2_ := Aside0.mk ((by rw [hg]; exact (below_size (by repeat (first | (with_reducible first | exact HB.out | apply below_alloc | apply pw_below_drewN | apply below_drew1) | exact HB.out))) : w.heap.size ≤ gb133)); have n3_ := Aside0.mk ((by rw [hg]; exact (below_size (by repeat (first | (with_reducible first | exact HB.out | apply below_alloc | apply pw_below_drewN | apply below_drew1) | exact HB.out))) : w.heap.size ≤ gb133)); clear HB; have HB := n0_; have BK133 := n1_; have GW133 := n2_; have GE133 := n3_; clear n0_ n1_ n2_ n3_; clear hb hbox hg; have hcz22_0 : w21.cell? ⟨gb133, 0, none⟩ = some (.int .i64 0) := (blk_cell BK133.out 0).trans rfl; have hcz22_1 : w21.cell? ⟨gb133, 1, none⟩ = some (.bool false) := (blk_cell BK133.out 1).trans rfl; have hfz22_0 := blk_frozen BK133.out 0; have hfz22_1 := blk_frozen BK133.out 1)))
                    go_roundg k1
                    case measure => have := HK1.out; omega
                    case rel => exact ⟨(wrap64 (x10_1 + 1)), (by first | rfl | (simp; done) | (simp [*]; done)), H', ⟨by have := HK1.out; omega⟩, ⟨by repeat (first | (with_reducible first | exact HB.out | apply below_alloc | apply pw_below_drewN | apply below_drew1 | refine below_set ?_ GE133.out) | exact HB.out)⟩⟩
            · rw [if_neg c5] at H
              exact absurd H (by simp)
          · rw [if_neg c4] at H
            exact absurd H (by simp)
        · rw [if_neg c3] at H
          have c3b0 : decide (x10_1 < (l0.length : Int)) = false := decide_eq_false c3
          clear c3
          obtain rfl := Option.some.inj H
          go_wp2
          repeat (go_quiet (fail); try go_wp2)
          go_ret
          exact ⟨by first | rfl | (simp [errW_none, errW_some] <;> rfl) | (simp [*, errW_none, errW_some] <;> rfl), by repeat (first | (with_reducible first | exact HB.out | apply below_alloc | apply pw_below_drewN | apply below_drew1) | exact HB.out)⟩

/-! ### spec_behind: function 34 -/
def spec_behind.l0 : Nat → List (S32) → Int → Int → Int → Option (Int)
  | 0, _, _, _, _ => none
  | k + 1, x0, x1, x5, x6 => if x5 < x6 then (if 0 ≤ (wrap64 (Int.tdiv (wrap64 (x5 + x6)) 2)) then (if (wrap64 (Int.tdiv (wrap64 (x5 + x6)) 2)) < (x0.length : Int) then (if ((rd_T32 x0 (wrap64 (Int.tdiv (wrap64 (x5 + x6)) 2))).f0) ≥ x1 then (spec_behind.l0 k x0 x1 (wrap64 ((wrap64 (Int.tdiv (wrap64 (x5 + x6)) 2)) + 1)) x6) else (spec_behind.l0 k x0 x1 x5 (wrap64 (Int.tdiv (wrap64 (x5 + x6)) 2)))) else (none)) else (none)) else (some x5)
def spec_behind.f (k : Nat) (l0 : List (S32)) (a1 : Int) : Option (Int) := spec_behind.l0 k l0 a1 0 (l0.length : Int)
theorem spec_behind.mono_l : ∀ k, (∀ y0 y1 y2 y3, LeO (spec_behind.l0 k y0 y1 y2 y3) (spec_behind.l0 (k + 1) y0 y1 y2 y3))
  | 0 => fun _ _ _ _ r h => by simp [spec_behind.l0] at h
  | k + 1 => by
    have ih0 := spec_behind.mono_l k
    · intro y0 y1 y2 y3
      unfold spec_behind.l0
      repeat' first
      | (with_reducible exact ih0 _ _ _ _)
      | (with_reducible exact LeO.refl _)
      | (with_reducible exact LeO.none _)
      | (with_reducible refine LeO.ite ?_ ?_)
      | (with_reducible refine LeO.bind ?_ (fun _ => ?_))
      | exact ih0 _ _ _ _
      | exact LeO.none _
      | refine LeO.ite ?_ ?_
      | refine LeO.bind ?_ (fun _ => ?_)
theorem spec_behind.mono : ∀ a0 a1 k, LeO (spec_behind.f k a0 a1) (spec_behind.f (k + 1) a0 a1) := by
  intro a0 a1 k
  have ih0 := spec_behind.mono_l k
  unfold spec_behind.f
  repeat' first
      | (with_reducible exact ih0 _ _ _ _)
      | (with_reducible exact LeO.refl _)
      | (with_reducible exact LeO.none _)
      | (with_reducible refine LeO.ite ?_ ?_)
      | (with_reducible refine LeO.bind ?_ (fun _ => ?_))
      | exact ih0 _ _ _ _
      | exact LeO.none _
      | refine LeO.ite ?_ ?_
      | refine LeO.bind ?_ (fun _ => ?_)
set_option maxHeartbeats 8000000 in
set_option maxRecDepth 100000 in
theorem spec_behind.calls (k : Nat) (A0 : Option Addr) (c0 : Nat) (l0 : List (S32)) (a1 : Int) (r : Int) (w : World) (hr0 : Kd.C k32 w A0 l0.length l0) (hc0 : l0.length ≤ c0) (h : spec_behind.f k l0 a1 = some r) :
    Calls Try.prog 34 #[.slice A0 l0.length c0, .int .i64 a1] w fun e w' => e = .returned (.int .i64 r) ∧ Drawn0 w w' := by
  have HR0 := Aside0.mk hr0
  have HC0 := Aside0.mk hc0
  clear hr0 hc0
  have H : (spec_behind.l0 k l0 a1 0 (l0.length : Int)) = some r := h
  clear h
  have H' := Aside0.mk H
  clear H
  go_enter Try.func34, Try.ntmps34
  go_wp2
  go_loopg [5, 6] k (fun kq v5 v6 w' => ∃ (x5_1 : Int) (x6_1 : Int), v5 = .int .i64 x5_1 ∧ v6 = .int .i64 x6_1 ∧ Aside0 (spec_behind.l0 kq l0 a1 x5_1 x6_1 = some r) ∧ Aside0 (kq ≤ k) ∧ Drawn0 w w')
  case atStart => exact ⟨(0), ((l0.length : Int)), (by first | rfl | (simp; done) | (simp [*]; done)), (by first | rfl | (simp; done) | (simp [*]; done)), H', ⟨Nat.le_refl _⟩, by repeat (first | exact Drawn0.refl _ | apply Drawn0.step)⟩
  case round =>
    clear H'
    try clear p2
    obtain ⟨x5_1, x6_1, rfl, rfl, HA, HK1, ⟨m1, rfl⟩⟩ := hrel
    cases gk with
    | zero => exact absurd HA.out (by simp [spec_behind.l0])
    | succ k1 =>
      have H := HA.out
      clear HA
      simp only [spec_behind.l0] at H
      by_cases c3 : x5_1 < x6_1
      · rw [if_pos c3] at H
        have c3b0 : decide (x5_1 < x6_1) = true := decide_eq_true c3
        clear c3
        obtain ⟨ji4, hji4⟩ : ∃ j_ : Int, (wrap64 (Int.tdiv (wrap64 (x5_1 + x6_1)) 2)) = j_ := ⟨_, rfl⟩
        replace H : (if 0 ≤ (ji4) then (if (ji4) < (l0.length : Int) then (if ((rd_T32 l0 (ji4)).f0) ≥ a1 then (spec_behind.l0 k1 l0 a1 (wrap64 ((ji4) + 1)) x6_1) else (spec_behind.l0 k1 l0 a1 x5_1 ji4)) else (none)) else (none)) = some r := by first | (rw [hji4] at H; exact H) | (simp only [hji4] at H ⊢; exact H)
        have hji4w : (IntKind.i64.wrap (Int.tdiv (wrap64 (x5_1 + x6_1)) 2)) = ji4 := (i64_w _).trans hji4
        by_cases c5 : 0 ≤ (ji4)
        · rw [if_pos c5] at H
          have c5b0 : decide (0 ≤ (ji4)) = true := decide_eq_true c5
          clear c5
          by_cases c6 : (ji4) < (l0.length : Int)
          · rw [if_pos c6] at H
            have c6b0 : decide ((ji4) < (l0.length : Int)) = true := decide_eq_true c6
            clear c6
            by_cases c7 : ((rd_T32 l0 (ji4)).f0) ≥ a1
            · rw [if_pos c7] at H
              have c7b0 : decide (a1 ≤ ((rd_T32 l0 (ji4)).f0)) = true := decide_eq_true c7
              clear c7
              have H' := Aside0.mk H
              clear H
              have p135 : 0 ≤ ((ji4) : Int) := of_decide_eq_true (by first | (with_reducible assumption) | assumption)
              have q135 : (ji4) < (l0.length : Int) := of_decide_eq_true (by first | (with_reducible assumption) | assumption)
              obtain ⟨ad135, e135, hx135_0, hx135_1⟩ := at_T32 HR0.out (ji4) p135 q135
              cases e135
              replace p135 := eq_true p135
              replace q135 := eq_true q135
              go_wp2
              go_roundg k1
              case measure => have := HK1.out; omega
              case rel => exact ⟨(wrap64 ((ji4) + 1)), (x6_1), (by first | rfl | (simp; done) | (simp only [← hji4] <;> (first | rfl | simp)) | (simp [*]; done)), (by first | rfl | (simp; done) | (simp [*]; done)), H', ⟨by have := HK1.out; omega⟩, by repeat (first | exact Drawn0.refl _ | apply Drawn0.step)⟩
            · rw [if_neg c7] at H
              have c7b0 : decide (a1 ≤ ((rd_T32 l0 (ji4)).f0)) = false := decide_eq_false c7
              clear c7
              have H' := Aside0.mk H
              clear H
              have p135 : 0 ≤ ((ji4) : Int) := of_decide_eq_true (by first | (with_reducible assumption) | assumption)
              have q135 : (ji4) < (l0.length : Int) := of_decide_eq_true (by first | (with_reducible assumption) | assumption)
              obtain ⟨ad135, e135, hx135_0, hx135_1⟩ := at_T32 HR0.out (ji4) p135 q135
              cases e135
              replace p135 := eq_true p135
              replace q135 := eq_true q135
              go_wp2
              go_roundg k1
              case measure => have := HK1.out; omega
              case rel => exact ⟨(x5_1), (ji4), (by first | rfl | (simp; done) | (simp [*]; done)), (by first | rfl | (simp; done) | (simp only [← hji4] <;> (first | rfl | simp)) | (simp [*]; done)), H', ⟨by have := HK1.out; omega⟩, by repeat (first | exact Drawn0.refl _ | apply Drawn0.step)⟩
          · rw [if_neg c6] at H
            exact absurd H (by simp)
        · rw [if_neg c5] at H
          exact absurd H (by simp)
      · rw [if_neg c3] at H
        have c3b0 : decide (x5_1 < x6_1) = false := decide_eq_false c3
        clear c3
        obtain rfl := Option.some.inj H
        go_wp2
        go_ret
        exact ⟨by first | rfl | (simp; done) | (simp [*]; done), by repeat (first | exact Drawn0.refl _ | apply Drawn0.step)⟩

/-! ### spec_Live: function 19 -/
def spec_Live.f (k : Nat) (l0 : List (S32)) (a1 : Int) : Option (Bool) := (spec_behind.f k l0 a1).bind fun t136 => (if t136 = 0 then (some false) else (if 0 ≤ (wrap64 (t136 - 1)) then (if (wrap64 (t136 - 1)) < (l0.length : Int) then (if (rd_T32 l0 (wrap64 (t136 - 1))).f1 = true then (some false) else (if t136 < (l0.length : Int) then (some true) else (some (((rd_T32 l0 (wrap64 (t136 - 1))).f0) == a1)))) else (none)) else (none)))
theorem spec_Live.mono : ∀ a0 a1 k, LeO (spec_Live.f k a0 a1) (spec_Live.f (k + 1) a0 a1) := by
  intro a0 a1 k
  unfold spec_Live.f
  repeat' first
      | (with_reducible exact spec_behind.mono _ _ _)
      | (with_reducible exact LeO.refl _)
      | (with_reducible exact LeO.none _)
      | (with_reducible refine LeO.ite ?_ ?_)
      | (with_reducible refine LeO.bind ?_ (fun _ => ?_))
      | exact spec_behind.mono _ _ _
      | exact LeO.none _
      | refine LeO.ite ?_ ?_
      | refine LeO.bind ?_ (fun _ => ?_)
set_option maxHeartbeats 8000000 in
set_option maxRecDepth 100000 in
theorem spec_Live.calls (k : Nat) (A0 : Option Addr) (c0 : Nat) (l0 : List (S32)) (a1 : Int) (r : Bool) (w : World) (hr0 : Kd.C k32 w A0 l0.length l0) (hc0 : l0.length ≤ c0) (h : spec_Live.f k l0 a1 = some r) :
    Calls Try.prog 19 #[.slice A0 l0.length c0, .int .i64 a1] w fun e w' => e = .returned (.bool r) ∧ Drawn0 w w' := by
  have HR0 := Aside0.mk hr0
  have HC0 := Aside0.mk hc0
  clear hr0 hc0
  have H : ((spec_behind.f k l0 a1).bind fun t136 => (if t136 = 0 then (some false) else (if 0 ≤ (wrap64 (t136 - 1)) then (if (wrap64 (t136 - 1)) < (l0.length : Int) then (if (rd_T32 l0 (wrap64 (t136 - 1))).f1 = true then (some false) else (if t136 < (l0.length : Int) then (some true) else (some (((rd_T32 l0 (wrap64 (t136 - 1))).f0) == a1)))) else (none)) else (none)))) = some r := h
  clear h
  replace H := Option.bind_eq_some_iff.mp H
  obtain ⟨t136, A30, H⟩ := H
  replace H : (if t136 = 0 then (some false) else (if 0 ≤ (wrap64 (t136 - 1)) then (if (wrap64 (t136 - 1)) < (l0.length : Int) then (if (rd_T32 l0 (wrap64 (t136 - 1))).f1 = true then (some false) else (if t136 < (l0.length : Int) then (some true) else (some (((rd_T32 l0 (wrap64 (t136 - 1))).f0) == a1)))) else (none)) else (none))) = some r := H
  have A3 := Aside0.mk A30
  clear A30
  by_cases c4 : t136 = 0
  · rw [if_pos c4] at H
    have c4b0 : (t136 == 0) = true := beq_iff_eq.mpr c4
    have c4b1 : (t136 != 0) = false := bne_eq_false_iff_eq.mpr c4
    clear c4
    obtain rfl := Option.some.inj H
    go_enter Try.func19, Try.ntmps19
    go_wp2_with (first | ((with_reducible refine gate_callee (f := 34) rfl ?_); refine goesL_ (some 8) rfl rfl Try.func34 (by kernel_rfl) rfl #[.slice A0 l0.length c0, .int .i64 a1] rfl (by (try simp only [List.map_toArray, List.map_cons, List.map_nil]); first | done | rfl | (simp only [List.length_drop, List.length_take]; rfl)) ?_; (with_reducible refine (spec_behind.calls k _ _ l0 a1 t136 _ ?side1 ?side2 A3.out).mono ?_); (case side1 => repeat (first | exact HR0.out | (with_reducible refine Kd.C_alloc ?_ _) | (with_reducible refine Kd.C_drewN ?_ _) | (with_reducible refine Kd.C_drew ?_))); (case side2 => exact HC0.out); rintro e w' ⟨rfl, ⟨nd, rfl⟩⟩; refine ⟨_, rfl, ?_⟩))
    go_ret
    exact ⟨by first | rfl | (simp; done) | (simp [*]; done), by repeat (first | exact Drawn0.refl _ | apply Drawn0.step)⟩
  · rw [if_neg c4] at H
    have c4b0 : (t136 == 0) = false := beq_eq_false_iff_ne.mpr c4
    have c4b1 : (t136 != 0) = true := bne_iff_ne.mpr c4
    obtain ⟨ji5, hji5⟩ : ∃ j_ : Int, (wrap64 (t136 - 1)) = j_ := ⟨_, rfl⟩
    replace H : (if 0 ≤ (ji5) then (if (ji5) < (l0.length : Int) then (if (rd_T32 l0 (ji5)).f1 = true then (some false) else (if t136 < (l0.length : Int) then (some true) else (some (((rd_T32 l0 (ji5)).f0) == a1)))) else (none)) else (none)) = some r := by first | (rw [hji5] at H; exact H) | (simp only [hji5] at H ⊢; exact H)
    (try rw [hji5] at A3)
    have hji5w : (IntKind.i64.wrap (t136 - 1)) = ji5 := (i64_w _).trans hji5
    by_cases c6 : 0 ≤ (ji5)
    · rw [if_pos c6] at H
      have c6b0 : decide (0 ≤ (ji5)) = true := decide_eq_true c6
      clear c6
      by_cases c7 : (ji5) < (l0.length : Int)
      · rw [if_pos c7] at H
        have c7b0 : decide ((ji5) < (l0.length : Int)) = true := decide_eq_true c7
        clear c7
        obtain ⟨bq8, hbq8⟩ : ∃ b_ : Bool, b_ = ((rd_T32 l0 (ji5)).f1) := ⟨_, rfl⟩
        replace H : (if bq8 = true then (some false) else (if t136 < (l0.length : Int) then (some true) else (some (((rd_T32 l0 (ji5)).f0) == a1)))) = some r := by rw [← hbq8] at H; exact H
        have Nbq8 := Aside0.mk hbq8
        clear hbq8
        by_cases c9 : bq8 = true
        · subst c9
          have H1 : (some false) = some r := by rw [if_pos rfl] at H; exact H
          clear H
          have H := H1
          clear H1
          obtain rfl := Option.some.inj H
          go_enter Try.func19, Try.ntmps19
          go_wp2_with (first | ((with_reducible refine gate_callee (f := 34) rfl ?_); refine goesL_ (some 8) rfl rfl Try.func34 (by kernel_rfl) rfl #[.slice A0 l0.length c0, .int .i64 a1] rfl (by (try simp only [List.map_toArray, List.map_cons, List.map_nil]); first | done | rfl | (simp only [List.length_drop, List.length_take]; rfl)) ?_; (with_reducible refine (spec_behind.calls k _ _ l0 a1 t136 _ ?side1 ?side2 A3.out).mono ?_); (case side1 => repeat (first | exact HR0.out | (with_reducible refine Kd.C_alloc ?_ _) | (with_reducible refine Kd.C_drewN ?_ _) | (with_reducible refine Kd.C_drew ?_))); (case side2 => exact HC0.out); rintro e w' ⟨rfl, ⟨nd, rfl⟩⟩; refine ⟨_, rfl, ?_⟩; have p137 : 0 ≤ ((ji5) : Int) := of_decide_eq_true (by first | (with_reducible assumption) | assumption); have q137 : (ji5) < (l0.length : Int) := of_decide_eq_true (by first | (with_reducible assumption) | assumption); obtain ⟨ad137, e137, hx137_0, hx137_1⟩ := at_T32 HR0.out (ji5) p137 q137; (try rw [← Nbq8.out] at hx137_1); cases e137; replace p137 := eq_true p137; replace q137 := eq_true q137))
          go_ret
          exact ⟨by first | rfl | (simp; done) | (simp only [← hji5] <;> (first | rfl | simp)) | (simp [*]; done), by repeat (first | exact Drawn0.refl _ | apply Drawn0.step)⟩
        · replace c9 := Bool.eq_false_iff.mpr c9
          subst c9
          have H1 : (if t136 < (l0.length : Int) then (some true) else (some (((rd_T32 l0 (ji5)).f0) == a1))) = some r := by rw [if_neg (show ¬ (false = true) by decide)] at H; exact H
          clear H
          have H := H1
          clear H1
          by_cases c10 : t136 < (l0.length : Int)
          · rw [if_pos c10] at H
            have c10b0 : decide (t136 < (l0.length : Int)) = true := decide_eq_true c10
            clear c10
            obtain rfl := Option.some.inj H
            go_enter Try.func19, Try.ntmps19
            go_wp2_with (first | ((with_reducible refine gate_callee (f := 34) rfl ?_); refine goesL_ (some 8) rfl rfl Try.func34 (by kernel_rfl) rfl #[.slice A0 l0.length c0, .int .i64 a1] rfl (by (try simp only [List.map_toArray, List.map_cons, List.map_nil]); first | done | rfl | (simp only [List.length_drop, List.length_take]; rfl)) ?_; (with_reducible refine (spec_behind.calls k _ _ l0 a1 t136 _ ?side1 ?side2 A3.out).mono ?_); (case side1 => repeat (first | exact HR0.out | (with_reducible refine Kd.C_alloc ?_ _) | (with_reducible refine Kd.C_drewN ?_ _) | (with_reducible refine Kd.C_drew ?_))); (case side2 => exact HC0.out); rintro e w' ⟨rfl, ⟨nd, rfl⟩⟩; refine ⟨_, rfl, ?_⟩; have p137 : 0 ≤ ((ji5) : Int) := of_decide_eq_true (by first | (with_reducible assumption) | assumption); have q137 : (ji5) < (l0.length : Int) := of_decide_eq_true (by first | (with_reducible assumption) | assumption); obtain ⟨ad137, e137, hx137_0, hx137_1⟩ := at_T32 HR0.out (ji5) p137 q137; (try rw [← Nbq8.out] at hx137_1); cases e137; replace p137 := eq_true p137; replace q137 := eq_true q137))
            go_ret
            exact ⟨by first | rfl | (simp; done) | (simp only [← hji5] <;> (first | rfl | simp)) | (simp [*]; done), by repeat (first | exact Drawn0.refl _ | apply Drawn0.step)⟩
          · rw [if_neg c10] at H
            have c10b0 : decide (t136 < (l0.length : Int)) = false := decide_eq_false c10
            clear c10
            obtain rfl := Option.some.inj H
            go_enter Try.func19, Try.ntmps19
            go_wp2_with (first | ((with_reducible refine gate_callee (f := 34) rfl ?_); refine goesL_ (some 8) rfl rfl Try.func34 (by kernel_rfl) rfl #[.slice A0 l0.length c0, .int .i64 a1] rfl (by (try simp only [List.map_toArray, List.map_cons, List.map_nil]); first | done | rfl | (simp only [List.length_drop, List.length_take]; rfl)) ?_; (with_reducible refine (spec_behind.calls k _ _ l0 a1 t136 _ ?side1 ?side2 A3.out).mono ?_); (case side1 => repeat (first | exact HR0.out | (with_reducible refine Kd.C_alloc ?_ _) | (with_reducible refine Kd.C_drewN ?_ _) | (with_reducible refine Kd.C_drew ?_))); (case side2 => exact HC0.out); rintro e w' ⟨rfl, ⟨nd, rfl⟩⟩; refine ⟨_, rfl, ?_⟩; have p137 : 0 ≤ ((ji5) : Int) := of_decide_eq_true (by first | (with_reducible assumption) | assumption); have q137 : (ji5) < (l0.length : Int) := of_decide_eq_true (by first | (with_reducible assumption) | assumption); obtain ⟨ad137, e137, hx137_0, hx137_1⟩ := at_T32 HR0.out (ji5) p137 q137; (try rw [← Nbq8.out] at hx137_1); cases e137; replace p137 := eq_true p137; replace q137 := eq_true q137; have p138 : 0 ≤ ((ji5) : Int) := of_decide_eq_true (by first | (with_reducible assumption) | assumption); have q138 : (ji5) < (l0.length : Int) := of_decide_eq_true (by first | (with_reducible assumption) | assumption); obtain ⟨ad138, e138, hx138_0, hx138_1⟩ := at_T32 HR0.out (ji5) p138 q138; (try rw [← Nbq8.out] at hx138_1); obtain rfl : ad137 = ad138 := (by injection e138); replace p138 := eq_true p138; replace q138 := eq_true q138))
            go_ret
            exact ⟨by first | rfl | (simp; done) | (simp only [← hji5] <;> (first | rfl | simp)) | (simp [*]; done), by repeat (first | exact Drawn0.refl _ | apply Drawn0.step)⟩
      · rw [if_neg c7] at H
        exact absurd H (by simp)
    · rw [if_neg c6] at H
      exact absurd H (by simp)
end Go.Proofs.Ytmfffeoodlmnbaa.Sp
