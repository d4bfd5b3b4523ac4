/- pairVisitor.init, nxt: what they return, and what becomes of the visitor. The walks. -/
import Derived.Test.YtmfffeoodlmnbaaSe
import Derived.Deep.MidRow
namespace Go.Proofs.Ytmfffeoodlmnbaa.In
set_option linter.unusedSimpArgs false
set_option linter.unusedVariables false
open Go.RowKit Go.Proofs.YtmfffeoodlmnbaaW.PrintWords Go.Proofs.YtmfffeoodlmnbaaW.PrintLast Go.Proofs.YtmfffeoodlmnbaaW.PrintMore Go.Proofs.Ytmfffeoodlmnbaa.Kit Go.Proofs.Ytmfffeoodlmnbaa.Sp Go.Proofs.Ytmfffeoodlmnbaa.Se
/-- what sel picks. -/
def sv (l1 l2 : List S63) (i j : Int) : Int × Int × Int :=
  if (l1.length : Int) ≤ i then (if (l2.length : Int) ≤ j then (0, 0, -1) else ((rd_T63 l2 j).f0, (rd_T63 l2 j).f1, 1))
  else if (l2.length : Int) ≤ j then ((rd_T63 l1 i).f0, (rd_T63 l1 i).f1, 0)
  else if (rd_T63 l1 i).f0 ≤ (rd_T63 l2 j).f0 then ((rd_T63 l1 i).f0, (rd_T63 l1 i).f1, 0) else ((rd_T63 l2 j).f0, (rd_T63 l2 j).f1, 1)
abbrev vv (s : Int × Int × Int) : Array Value := #[.int .i64 s.1, .int .i64 s.2.1, .int .i64 s.2.2]
theorem c53 (g : Nat) (a b p i j : Int) (l1 l2 : List S63) (A1 : Option Addr) (c1 : Nat) (A2 : Option Addr) (c2 : Nat) (w : World) (hp : w.heap[g]? = some (.cells (pvRow a b p i j A1 l1.length c1 A2 l2.length c2) 72 (0, 0)))
    (hc1 : Kd.C k63 w A1 l1.length l1) (hc2 : Kd.C k63 w A2 l2.length l2) (hi : 0 ≤ i) (hj : 0 ≤ j) :
    Calls Try.prog 53 #[.pointer (some ⟨g, 0, none⟩)] w fun e w' => e = .returned (.agg (vv (sv l1 l2 i j))) ∧ Below w.heap.size w w' := by
  unfold sv
  by_cases h1 : (l1.length : Int) ≤ i
  · by_cases h2 : (l2.length : Int) ≤ j
    · rw [if_pos h1, if_pos h2]; exact sel_n g a b p i j l1 l2 A1 c1 A2 c2 w ⟨hp⟩ hc1 hc2 hi hj h1 h2
    · rw [if_pos h1, if_neg h2]; exact sel_2 g a b p i j l1 l2 A1 c1 A2 c2 w ⟨hp⟩ hc1 hc2 hi hj h1 (by omega)
  · by_cases h2 : (l2.length : Int) ≤ j
    · rw [if_neg h1, if_pos h2]; exact sel_1 g a b p i j l1 l2 A1 c1 A2 c2 w ⟨hp⟩ hc1 hc2 hi hj (by omega) h2
    · rw [if_neg h1, if_neg h2]
      by_cases h3 : (rd_T63 l1 i).f0 ≤ (rd_T63 l2 j).f0
      · rw [if_pos h3]; exact sel_l g a b p i j l1 l2 A1 c1 A2 c2 w ⟨hp⟩ hc1 hc2 hi hj (by omega) (by omega) h3
      · rw [if_neg h3]; exact sel_g g a b p i j l1 l2 A1 c1 A2 c2 w ⟨hp⟩ hc1 hc2 hi hj (by omega) (by omega) (by omega)
/-- nothing that existed has changed but block g. -/
structure Only (g : Nat) (w W : World) : Prop where
  os : W.os = w.os
  tape : W.tape = w.tape
  output : W.output = w.output
  keep : Kept w W (fun k => k = g)
theorem Only.refl (g : Nat) (w : World) : Only g w w := ⟨rfl, rfl, rfl, Kept.refl _ _⟩
theorem Only.below {g : Nat} {w W W2 : World} (h : Only g w W) (hb : Below W.heap.size W W2) : Only g w W2 := ⟨hb.os.trans h.os, hb.tape.trans h.tape, hb.output.trans h.output, h.keep.below hb⟩
theorem Only.set {g : Nat} {w W : World} (h : Only g w W) (k : Nat) (u : Value) : Only g w (W.setCell ⟨g, k, none⟩ u) := ⟨h.os, h.tape, h.output, h.keep.setCell (p := ⟨g, k, none⟩) (.inl rfl) u⟩
theorem Only.far {g n : Nat} {w W : World} (h : Only g w W) (hn : w.heap.size ≤ n) (C : Array Value) : Only g w (W.setRow n C) :=
  ⟨h.os, h.tape, h.output, h.keep.then_ (S2 := fun k => k = n) ⟨by simp, fun i _ hi => setRow_other W n i C hi⟩ (fun k hk => by rw [hk]; exact .inr hn)⟩
/-- from outside: the block came into being since w0. -/
theorem Only.out {g B : Nat} {w0 w W : World} (h : Only g w W) (hb : Below B w0 w) (hB : B ≤ w.heap.size) (hg : B ≤ g) : Below B w0 W :=
  ⟨h.os.trans hb.os, h.tape.trans hb.tape, h.output.trans hb.output, Nat.le_trans hb.size h.keep.1, fun k hk => (h.keep.2 k (by omega) (by omega)).trans (hb.block k hk)⟩
structure Vis (w0 : World) (g : Nat) (row : Array Value) (W : World) : Prop where
  pv : W.heap[g]? = some (.cells row 72 (0, 0))
  hg : g < w0.heap.size
  bR : W.heap[w0.heap.size]? = some (.cells #[.int .i64 0, .int .i64 0, .int .i64 0] 70 (0, 0))
  only : Only g w0 W
section
variable {w0 W : World} {g : Nat} {row : Array Value}
theorem Vis.start (w : World) (h : w.heap[g]? = some (.cells row 72 (0, 0))) : Vis w g row (w.alloc (.cells #[.int .i64 0, .int .i64 0, .int .i64 0] 70 (0, 0))) :=
  ⟨blk_alloc h _, blk_lt h, blk_new w _, (Only.refl g w).below ((Below.refl _ _).alloc (Nat.le_refl _) _)⟩
theorem Vis.call {W' : World} (h : Vis w0 g row W) (hb : Below W.heap.size W W') : Vis w0 g row W' := ⟨blk_below h.pv hb, h.hg, blk_below h.bR hb, h.only.below hb⟩
theorem Vis.drewN (h : Vis w0 g row W) (m : Nat) : Vis w0 g row (W.drewN m) := h.call (below_drewN' (Below.refl _ _) m)
theorem Vis.set (h : Vis w0 g row W) (k : Nat) (u : Value) : Vis w0 g (row.setIfInBounds k u) (W.setCell ⟨g, k, none⟩ u) :=
  ⟨blk_set h.pv k u, h.hg, blk_far h.bR (by have := h.hg; simp; omega) u, h.only.set k u⟩
theorem Vis.there {C : Array Value} (h : Vis w0 g C W) (hC : C.size = 7) : W.there g 0 3 := fun j hj => by
  have hl : 0 + j < C.size := by omega
  refine ⟨?_, blk_frozen h.pv _⟩
  rw [blk_cell h.pv, Array.getElem?_eq_getElem hl]; rfl
theorem range3 {t : TypeId} {C : Array Value} (h : W.heap[g]? = some (.cells C t (0, 0))) (a b c : Value) (h0 : C[0]? = some a) (h1 : C[1]? = some b) (h2 : C[2]? = some c) : W.rangeAt g 0 [a, b, c] := fun j v hj => by
  rw [blk_cell h]
  match j, hj with
  | 0, hj => simp at hj; subst hj; exact h0
  | 1, hj => simp at hj; subst hj; exact h1
  | 2, hj => simp at hj; subst hj; exact h2
end
set_option maxHeartbeats 8000000 in
set_option maxRecDepth 100000 in
theorem c42 (g : Nat) (l1 l2 : List S63) (A1 : Option Addr) (c1 : Nat) (A2 : Option Addr) (c2 : Nat) (w : World) (hp : w.heap[g]? = some (.cells (pvRow 0 0 0 0 0 none 0 0 none 0 0) 72 (0, 0)))
    (hc1 : ∀ W, Only g w W → Kd.C k63 W A1 l1.length l1) (hc2 : ∀ W, Only g w W → Kd.C k63 W A2 l2.length l2) :
    Calls Try.prog 42 #[.pointer (some ⟨g, 0, none⟩), .slice A1 l1.length c1, .slice A2 l2.length c2] w fun e w' => e = .returned (.agg (vv (sv l1 l2 0 0))) ∧
      w'.heap[g]? = some (.cells (pvRow (sv l1 l2 0 0).1 (sv l1 l2 0 0).2.1 (sv l1 l2 0 0).2.2 0 0 A1 l1.length c1 A2 l2.length c2) 72 (0, 0)) ∧ Only g w w' := by
  have V := Vis.start (g := g) w hp
  have HC1 := Lib.hid hc1
  have HC2 := Lib.hid hc2
  clear hp hc1 hc2
  obtain ⟨s, hs⟩ : ∃ s, sv l1 l2 0 0 = s := ⟨_, rfl⟩
  rw [hs]
  have HS := Lib.hid hs
  clear hs
  go_enter Try.func42, Try.ntmps42
  go_upto_region 1 with (fail)
  generalize w.alloc _ = W at *
  have k5 : W.cell? ⟨g, 5, none⟩ = some (.slice none 0 0) := (blk_cell V.pv 5).trans rfl
  have k6 : W.cell? ⟨g, 6, none⟩ = some (.slice none 0 0) := (blk_cell V.pv 6).trans rfl
  have f5 : W.frozen? ⟨g, 5, none⟩ = false := blk_frozen V.pv 5
  have f6 : W.frozen? ⟨g, 6, none⟩ = false := blk_frozen V.pv 6
  go_upto_region 2 with (fail)
  have V2 := (V.set 5 (.slice A1 l1.length c1)).set 6 (.slice A2 l2.length c2)
  generalize (W.setCell _ _).setCell _ _ = W2 at *
  clear V k5 k6 f5 f6
  go_upto_region 3 with (first
    | (go_at_call 53; refine (c53 g _ _ _ _ _ l1 l2 A1 c1 A2 c2 _ V2.pv (HC1.out _ V2.only) (HC2.out _ V2.only) (by decide) (by decide)).mono ?_; rintro e W3 ⟨rfl, hb⟩; rw [HS.out]; have V3 := V2.call hb; clear V2 hb)
    | (refine wpList_store_mid rfl 70 (.tmp 19) (.tmp 17) rfl g 0 (vv s) rfl rfl (V3.there rfl) (by kernel_rfl) (by simp [Value.oneCell']) ?_))
  have V4 : Vis w g (pvRow s.1 s.2.1 s.2.2 0 0 A1 l1.length c1 A2 l2.length c2) (W3.setCells g 0 [.int .i64 s.1, .int .i64 s.2.1, .int .i64 s.2.2]) := ((V3.set 0 (.int .i64 s.1)).set 1 (.int .i64 s.2.1)).set 2 (.int .i64 s.2.2)
  clear V3
  generalize W3.setCells g 0 _ = W4 at *
  have hu70 := Try.underlying70
  have hR := V4.bR
  go_wp2_with (first
    | (refine wpList_load_mid rfl 70 (.tmp 22) rfl g 0 rfl [.int .i64 s.1, .int .i64 s.2.1, .int .i64 s.2.2] _ (range3 V4.pv _ _ _ rfl rfl rfl) hu70 rfl (by kernel_rfl) ?_)
    | (refine wpList_store_row rfl 70 (.tmp 6) _ rfl w.heap.size (vv s) rfl rfl 70 _ hR (by kernel_rfl) rfl (by simp [Value.oneCell']) ?_))
  have q0 : (W4.setRow w.heap.size (vv s)).cell? ⟨w.heap.size, 0, none⟩ = some (.int .i64 s.1) := (blk_cell (setRow_heap W4 w.heap.size _ (vv s) _ _ hR) 0).trans rfl
  have q1 : (W4.setRow w.heap.size (vv s)).cell? ⟨w.heap.size, 1, none⟩ = some (.int .i64 s.2.1) := (blk_cell (setRow_heap W4 w.heap.size _ (vv s) _ _ hR) 1).trans rfl
  have q2 : (W4.setRow w.heap.size (vv s)).cell? ⟨w.heap.size, 2, none⟩ = some (.int .i64 s.2.2) := (blk_cell (setRow_heap W4 w.heap.size _ (vv s) _ _ hR) 2).trans rfl
  exact bodyPost_ret (v := .agg (vv s)) (by simp [results, Try.results42, go_sem, q0, q1, q2, hu70]) rfl ⟨rfl, (setRow_other W4 w.heap.size g _ (by have := V4.hg; omega)).trans V4.pv, V4.only.far (Nat.le_refl _) _⟩
set_option maxHeartbeats 8000000 in
set_option maxRecDepth 100000 in
theorem c43_0 (g : Nat) (a b i j : Int) (l1 l2 : List S63) (A1 : Option Addr) (c1 : Nat) (A2 : Option Addr) (c2 : Nat) (w : World) (hp : w.heap[g]? = some (.cells (pvRow a b 0 i j A1 l1.length c1 A2 l2.length c2) 72 (0, 0)))
    (hc1 : ∀ W, Only g w W → Kd.C k63 W A1 l1.length l1) (hc2 : ∀ W, Only g w W → Kd.C k63 W A2 l2.length l2) (hi : 0 ≤ i) (hj : 0 ≤ j) (hi' : i ≤ 140737488355328) (hj' : j ≤ 140737488355328) :
    Calls Try.prog 43 #[.pointer (some ⟨g, 0, none⟩)] w fun e w' => e = .returned (.agg (vv (sv l1 l2 (i + 1) j))) ∧
      w'.heap[g]? = some (.cells (pvRow (sv l1 l2 (i + 1) j).1 (sv l1 l2 (i + 1) j).2.1 (sv l1 l2 (i + 1) j).2.2 (i + 1) j A1 l1.length c1 A2 l2.length c2) 72 (0, 0)) ∧ Only g w w' := by
  have V := Vis.start (g := g) w hp
  have HC1 := Lib.hid hc1
  have HC2 := Lib.hid hc2
  clear hp hc1 hc2
  obtain ⟨s, hs⟩ : ∃ s, sv l1 l2 (i + 1) j = s := ⟨_, rfl⟩
  rw [hs]
  have HS := Lib.hid hs
  clear hs
  go_enter Try.func43, Try.ntmps43
  go_upto_region 1 with (fail)
  generalize w.alloc _ = W at *
  have k2 : W.cell? ⟨g, 2, none⟩ = some (.int .i64 0) := (blk_cell V.pv 2).trans rfl
  have k3 : W.cell? ⟨g, 3, none⟩ = some (.int .i64 i) := (blk_cell V.pv 3).trans rfl
  have k4 : W.cell? ⟨g, 4, none⟩ = some (.int .i64 j) := (blk_cell V.pv 4).trans rfl
  have f3 : W.frozen? ⟨g, 3, none⟩ = false := blk_frozen V.pv 3
  have f4 : W.frozen? ⟨g, 4, none⟩ = false := blk_frozen V.pv 4
  go_upto_region 4 with (fail)
  have V2 := V.set 3 (.int .i64 (i + 1))
  generalize W.setCell _ _ = W2 at *
  clear V k2 k3 k4 f3 f4
  go_upto_region 5 with (first
    | (go_at_call 53; refine (c53 g _ _ _ _ _ l1 l2 A1 c1 A2 c2 _ V2.pv (HC1.out _ V2.only) (HC2.out _ V2.only) (by omega) (by omega)).mono ?_; rintro e W3 ⟨rfl, hb⟩; rw [HS.out]; have V3 := V2.call hb; clear V2 hb)
    | (refine wpList_store_mid rfl 70 (.tmp 27) (.tmp 25) rfl g 0 (vv s) rfl rfl (V3.there rfl) (by kernel_rfl) (by simp [Value.oneCell']) ?_))
  have V4 : Vis w g (pvRow s.1 s.2.1 s.2.2 (i + 1) j A1 l1.length c1 A2 l2.length c2) (W3.setCells g 0 [.int .i64 s.1, .int .i64 s.2.1, .int .i64 s.2.2]) := ((V3.set 0 (.int .i64 s.1)).set 1 (.int .i64 s.2.1)).set 2 (.int .i64 s.2.2)
  clear V3
  generalize W3.setCells g 0 _ = W4 at *
  have hu70 := Try.underlying70
  have hR := V4.bR
  go_wp2_with (first
    | (refine wpList_load_mid rfl 70 (.tmp 30) rfl g 0 rfl [.int .i64 s.1, .int .i64 s.2.1, .int .i64 s.2.2] _ (range3 V4.pv _ _ _ rfl rfl rfl) hu70 rfl (by kernel_rfl) ?_)
    | (refine wpList_store_row rfl 70 (.tmp 2) _ rfl w.heap.size (vv s) rfl rfl 70 _ hR (by kernel_rfl) rfl (by simp [Value.oneCell']) ?_))
  have q0 : (W4.setRow w.heap.size (vv s)).cell? ⟨w.heap.size, 0, none⟩ = some (.int .i64 s.1) := (blk_cell (setRow_heap W4 w.heap.size _ (vv s) _ _ hR) 0).trans rfl
  have q1 : (W4.setRow w.heap.size (vv s)).cell? ⟨w.heap.size, 1, none⟩ = some (.int .i64 s.2.1) := (blk_cell (setRow_heap W4 w.heap.size _ (vv s) _ _ hR) 1).trans rfl
  have q2 : (W4.setRow w.heap.size (vv s)).cell? ⟨w.heap.size, 2, none⟩ = some (.int .i64 s.2.2) := (blk_cell (setRow_heap W4 w.heap.size _ (vv s) _ _ hR) 2).trans rfl
  exact bodyPost_ret (v := .agg (vv s)) (by simp [results, Try.results43, go_sem, q0, q1, q2, hu70]) rfl ⟨rfl, (setRow_other W4 w.heap.size g _ (by have := V4.hg; omega)).trans V4.pv, V4.only.far (Nat.le_refl _) _⟩
set_option maxHeartbeats 8000000 in
set_option maxRecDepth 100000 in
theorem c43_1 (g : Nat) (a b i j : Int) (l1 l2 : List S63) (A1 : Option Addr) (c1 : Nat) (A2 : Option Addr) (c2 : Nat) (w : World) (hp : w.heap[g]? = some (.cells (pvRow a b 1 i j A1 l1.length c1 A2 l2.length c2) 72 (0, 0)))
    (hc1 : ∀ W, Only g w W → Kd.C k63 W A1 l1.length l1) (hc2 : ∀ W, Only g w W → Kd.C k63 W A2 l2.length l2) (hi : 0 ≤ i) (hj : 0 ≤ j) (hi' : i ≤ 140737488355328) (hj' : j ≤ 140737488355328) :
    Calls Try.prog 43 #[.pointer (some ⟨g, 0, none⟩)] w fun e w' => e = .returned (.agg (vv (sv l1 l2 i (j + 1)))) ∧
      w'.heap[g]? = some (.cells (pvRow (sv l1 l2 i (j + 1)).1 (sv l1 l2 i (j + 1)).2.1 (sv l1 l2 i (j + 1)).2.2 i (j + 1) A1 l1.length c1 A2 l2.length c2) 72 (0, 0)) ∧ Only g w w' := by
  have V := Vis.start (g := g) w hp
  have HC1 := Lib.hid hc1
  have HC2 := Lib.hid hc2
  clear hp hc1 hc2
  obtain ⟨s, hs⟩ : ∃ s, sv l1 l2 i (j + 1) = s := ⟨_, rfl⟩
  rw [hs]
  have HS := Lib.hid hs
  clear hs
  go_enter Try.func43, Try.ntmps43
  go_upto_region 1 with (fail)
  generalize w.alloc _ = W at *
  have k2 : W.cell? ⟨g, 2, none⟩ = some (.int .i64 1) := (blk_cell V.pv 2).trans rfl
  have k3 : W.cell? ⟨g, 3, none⟩ = some (.int .i64 i) := (blk_cell V.pv 3).trans rfl
  have k4 : W.cell? ⟨g, 4, none⟩ = some (.int .i64 j) := (blk_cell V.pv 4).trans rfl
  have f3 : W.frozen? ⟨g, 3, none⟩ = false := blk_frozen V.pv 3
  have f4 : W.frozen? ⟨g, 4, none⟩ = false := blk_frozen V.pv 4
  go_upto_region 4 with (fail)
  have V2 := V.set 4 (.int .i64 (j + 1))
  generalize W.setCell _ _ = W2 at *
  clear V k2 k3 k4 f3 f4
  go_upto_region 5 with (first
    | (go_at_call 53; refine (c53 g _ _ _ _ _ l1 l2 A1 c1 A2 c2 _ V2.pv (HC1.out _ V2.only) (HC2.out _ V2.only) (by omega) (by omega)).mono ?_; rintro e W3 ⟨rfl, hb⟩; rw [HS.out]; have V3 := V2.call hb; clear V2 hb)
    | (refine wpList_store_mid rfl 70 (.tmp 27) (.tmp 25) rfl g 0 (vv s) rfl rfl (V3.there rfl) (by kernel_rfl) (by simp [Value.oneCell']) ?_))
  have V4 : Vis w g (pvRow s.1 s.2.1 s.2.2 i (j + 1) A1 l1.length c1 A2 l2.length c2) (W3.setCells g 0 [.int .i64 s.1, .int .i64 s.2.1, .int .i64 s.2.2]) := ((V3.set 0 (.int .i64 s.1)).set 1 (.int .i64 s.2.1)).set 2 (.int .i64 s.2.2)
  clear V3
  generalize W3.setCells g 0 _ = W4 at *
  have hu70 := Try.underlying70
  have hR := V4.bR
  go_wp2_with (first
    | (refine wpList_load_mid rfl 70 (.tmp 30) rfl g 0 rfl [.int .i64 s.1, .int .i64 s.2.1, .int .i64 s.2.2] _ (range3 V4.pv _ _ _ rfl rfl rfl) hu70 rfl (by kernel_rfl) ?_)
    | (refine wpList_store_row rfl 70 (.tmp 2) _ rfl w.heap.size (vv s) rfl rfl 70 _ hR (by kernel_rfl) rfl (by simp [Value.oneCell']) ?_))
  have q0 : (W4.setRow w.heap.size (vv s)).cell? ⟨w.heap.size, 0, none⟩ = some (.int .i64 s.1) := (blk_cell (setRow_heap W4 w.heap.size _ (vv s) _ _ hR) 0).trans rfl
  have q1 : (W4.setRow w.heap.size (vv s)).cell? ⟨w.heap.size, 1, none⟩ = some (.int .i64 s.2.1) := (blk_cell (setRow_heap W4 w.heap.size _ (vv s) _ _ hR) 1).trans rfl
  have q2 : (W4.setRow w.heap.size (vv s)).cell? ⟨w.heap.size, 2, none⟩ = some (.int .i64 s.2.2) := (blk_cell (setRow_heap W4 w.heap.size _ (vv s) _ _ hR) 2).trans rfl
  exact bodyPost_ret (v := .agg (vv s)) (by simp [results, Try.results43, go_sem, q0, q1, q2, hu70]) rfl ⟨rfl, (setRow_other W4 w.heap.size g _ (by have := V4.hg; omega)).trans V4.pv, V4.only.far (Nat.le_refl _) _⟩
end Go.Proofs.Ytmfffeoodlmnbaa.In
