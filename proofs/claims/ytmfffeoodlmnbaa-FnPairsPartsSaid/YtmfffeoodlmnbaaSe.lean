/- pairVisitor.sel, init, nxt: what they return, and what becomes of the visitor. The walks. -/
import Derived.Test.YtmfffeoodlmnbaaSp2
import Derived.Test.YtmfffeoodlmnbaaKit
import Derived.Lib.Hide
import Derived.Deep.RegionWith
import Derived.Deep.QuietTactic
import Derived.BigQuiet
import Derived.StillTailTactics
import Derived.Deep.RegionHeld3
import Derived.WalkSmall
import Derived.Outline
import Derived.Laws.CopyOwn
namespace Go.Proofs.Ytmfffeoodlmnbaa.Se
set_option linter.unusedSimpArgs false
set_option linter.unusedVariables false
open Go.RowKit Go.Proofs.YtmfffeoodlmnbaaW.PrintWords Go.Proofs.YtmfffeoodlmnbaaW.PrintLast Go.Proofs.YtmfffeoodlmnbaaW.PrintMore Go.Proofs.Ytmfffeoodlmnbaa.Kit Go.Proofs.Ytmfffeoodlmnbaa.Sp
/-- the visitor's block. -/
def pvRow (a b p i j : Int) (A1 : Option Addr) (n1 c1 : Nat) (A2 : Option Addr) (n2 c2 : Nat) : Array Value := #[.int .i64 a, .int .i64 b, .int .i64 p, .int .i64 i, .int .i64 j, .slice A1 n1 c1, .slice A2 n2 c2]
structure PV (W : World) (g : Nat) (a b p i j : Int) (A1 : Option Addr) (n1 c1 : Nat) (A2 : Option Addr) (n2 c2 : Nat) : Prop where
  row : W.heap[g]? = some (.cells (pvRow a b p i j A1 n1 c1 A2 n2 c2) 72 (0, 0))
section
variable {W : World} {g : Nat} {a b p i j : Int} {A1 : Option Addr} {n1 c1 : Nat} {A2 : Option Addr} {n2 c2 : Nat}
theorem PV.cells (h : PV W g a b p i j A1 n1 c1 A2 n2 c2) : W.cell? ⟨g, 0, none⟩ = some (.int .i64 a) ∧ W.cell? ⟨g, 1, none⟩ = some (.int .i64 b) ∧ W.cell? ⟨g, 2, none⟩ = some (.int .i64 p) ∧ W.cell? ⟨g, 3, none⟩ = some (.int .i64 i) ∧ W.cell? ⟨g, 4, none⟩ = some (.int .i64 j) ∧ W.cell? ⟨g, 5, none⟩ = some (.slice A1 n1 c1) ∧ W.cell? ⟨g, 6, none⟩ = some (.slice A2 n2 c2) :=
  ⟨(blk_cell h.row 0).trans rfl, (blk_cell h.row 1).trans rfl, (blk_cell h.row 2).trans rfl, (blk_cell h.row 3).trans rfl, (blk_cell h.row 4).trans rfl, (blk_cell h.row 5).trans rfl, (blk_cell h.row 6).trans rfl⟩
theorem PV.lt (h : PV W g a b p i j A1 n1 c1 A2 n2 c2) : g < W.heap.size := blk_lt h.row
end
theorem below_drewN' {B : Nat} {w0 W : World} (h : Below B w0 W) (m : Nat) : Below B w0 (W.drewN m) := ⟨h.os, h.tape, h.output, h.size, h.block⟩
theorem below_setCell' {B : Nat} {w0 W : World} (h : Below B w0 W) {g k : Nat} (hg : B ≤ g) (u : Value) : Below B w0 (W.setCell ⟨g, k, none⟩ u) := Below.setCell h (p := ⟨g, k, none⟩) hg u
theorem cell_below' {w w' : World} (hb : Below w.heap.size w w') {a : Addr} {v : Value} (hc : w.cell? a = some v) : w'.cell? a = some v := (hb.cell (World.block_lt_of_cell? w a hc)).trans hc
/-- the walk of sel: the visitor at g; the result's block n, the two candidates' blocks n + 1, n + 2. -/
structure Sel (w0 : World) (n g : Nat) (row X Y : Array Value) (W : World) : Prop where
  pv : W.heap[g]? = some (.cells row 72 (0, 0))
  hg : g < n
  bR : W.heap[n]? = some (.cells #[.int .i64 0, .int .i64 0, .int .i64 0] 70 (0, 0))
  b1 : W.heap[n + 1]? = some (.cells X 70 (0, 0))
  b2 : W.heap[n + 1 + 1]? = some (.cells Y 70 (0, 0))
  below : Below n w0 W
section
variable {w0 W : World} {n g : Nat} {row X Y : Array Value}
theorem Sel.start (w : World) (h : w.heap[g]? = some (.cells row 72 (0, 0))) :
    Sel w w.heap.size g row #[.int .i64 0, .int .i64 0, .int .i64 0] #[.int .i64 0, .int .i64 0, .int .i64 0] (((w.alloc (.cells #[.int .i64 0, .int .i64 0, .int .i64 0] 70 (0, 0))).alloc (.cells #[.int .i64 0, .int .i64 0, .int .i64 0] 70 (0, 0))).alloc (.cells #[.int .i64 0, .int .i64 0, .int .i64 0] 70 (0, 0))) := by
  have s1 : (w.alloc (.cells #[.int .i64 0, .int .i64 0, .int .i64 0] 70 (0, 0))).heap.size = w.heap.size + 1 := by simp
  have s2 : ((w.alloc (.cells #[.int .i64 0, .int .i64 0, .int .i64 0] 70 (0, 0))).alloc (.cells #[.int .i64 0, .int .i64 0, .int .i64 0] 70 (0, 0))).heap.size = w.heap.size + 1 + 1 := by simp
  refine ⟨blk_alloc (blk_alloc (blk_alloc h _) _) _, blk_lt h, blk_alloc (blk_alloc (blk_new w _) _) _, ?_, ?_, (((Below.refl _ _).alloc (Nat.le_refl _) _).alloc (by simp) _).alloc (by simp; omega) _⟩
  · rw [← s1]; exact blk_alloc (blk_new _ _) _
  · rw [← s2]; exact blk_new _ _
theorem Sel.drewN (h : Sel w0 n g row X Y W) (m : Nat) : Sel w0 n g row X Y (W.drewN m) := ⟨h.pv, h.hg, h.bR, h.b1, h.b2, below_drewN' h.below m⟩
theorem Sel.drew (h : Sel w0 n g row X Y W) : Sel w0 n g row X Y W.drew := ⟨h.pv, h.hg, h.bR, h.b1, h.b2, ⟨h.below.os, h.below.tape, h.below.output, h.below.size, h.below.block⟩⟩
theorem Sel.put1 (h : Sel w0 n g row X Y W) (k : Nat) (u : Value) : Sel w0 n g row (X.setIfInBounds k u) Y (W.setCell ⟨n + 1, k, none⟩ u) :=
  ⟨blk_far h.pv (by have := h.hg; simp; omega) u, h.hg, blk_far h.bR (by simp) u, blk_set h.b1 k u, blk_far h.b2 (by simp) u, below_setCell' h.below (by omega) u⟩
theorem Sel.put2 (h : Sel w0 n g row X Y W) (k : Nat) (u : Value) : Sel w0 n g row X (Y.setIfInBounds k u) (W.setCell ⟨n + 1 + 1, k, none⟩ u) :=
  ⟨blk_far h.pv (by have := h.hg; simp; omega) u, h.hg, blk_far h.bR (by simp; omega) u, blk_far h.b1 (by simp) u, blk_set h.b2 k u, below_setCell' h.below (by omega) u⟩
theorem Sel.row1 (h : Sel w0 n g row X Y W) (C : Array Value) : Sel w0 n g row C Y (W.setRow (n + 1) C) :=
  ⟨(setRow_other W (n + 1) g C (by have := h.hg; omega)).trans h.pv, h.hg, (setRow_other W (n + 1) n C (by omega)).trans h.bR, setRow_heap W (n + 1) _ C _ _ h.b1, (setRow_other W (n + 1) (n + 1 + 1) C (by omega)).trans h.b2, below_setRow h.below (by omega) C⟩
theorem Sel.row2 (h : Sel w0 n g row X Y W) (C : Array Value) : Sel w0 n g row X C (W.setRow (n + 1 + 1) C) :=
  ⟨(setRow_other W (n + 1 + 1) g C (by have := h.hg; omega)).trans h.pv, h.hg, (setRow_other W (n + 1 + 1) n C (by omega)).trans h.bR, (setRow_other W (n + 1 + 1) (n + 1) C (by omega)).trans h.b1, setRow_heap W (n + 1 + 1) _ C _ _ h.b2, below_setRow h.below (by omega) C⟩
end
set_option maxHeartbeats 8000000 in
set_option maxRecDepth 100000 in
theorem sel_n (g : Nat) (a b p i j : Int) (l1 l2 : List S63) (A1 : Option Addr) (c1 : Nat) (A2 : Option Addr) (c2 : Nat) (w : World) (hp : PV w g a b p i j A1 l1.length c1 A2 l2.length c2)
    (hc1 : Kd.C k63 w A1 l1.length l1) (hc2 : Kd.C k63 w A2 l2.length l2) (hi : 0 ≤ i) (hj : 0 ≤ j) (h1 : (l1.length : Int) ≤ i) (h2 : (l2.length : Int) ≤ j) :
    Calls Try.prog 53 #[.pointer (some ⟨g, 0, none⟩)] w fun e w' => e = .returned (.agg #[.int .i64 (0), .int .i64 (0), .int .i64 (-1)]) ∧ Below w.heap.size w w' := by
  clear hc1 hc2
  have S := Sel.start (g := g) w hp.row
  clear hp
  go_enter Try.func53, Try.ntmps53
  go_wp2
  generalize ((w.alloc _).alloc _).alloc _ = W at *
  have k3 : W.cell? ⟨g, 3, none⟩ = some (.int .i64 i) := (blk_cell S.pv 3).trans rfl
  have k4 : W.cell? ⟨g, 4, none⟩ = some (.int .i64 j) := (blk_cell S.pv 4).trans rfl
  have k5 : W.cell? ⟨g, 5, none⟩ = some (.slice A1 l1.length c1) := (blk_cell S.pv 5).trans rfl
  have k6 : W.cell? ⟨g, 6, none⟩ = some (.slice A2 l2.length c2) := (blk_cell S.pv 6).trans rfl
  have x2 : W.cell? ⟨w.heap.size + 1, 2, none⟩ = some (.int .i64 0) := (blk_cell S.b1 2).trans rfl
  have f2 : W.frozen? ⟨w.heap.size + 1, 2, none⟩ = false := blk_frozen S.b1 2
  go_quiet (fail)
  go_wp2
  have S2 := (S.drewN nq).put1 2 (.int .i64 (-1))
  clear k3 k4 k5 k6 x2 f2
  generalize (W.drewN nq).setCell _ _ = W2 at *
  clear S
  have k3 : W2.cell? ⟨g, 3, none⟩ = some (.int .i64 i) := (blk_cell S2.pv 3).trans rfl
  have k4 : W2.cell? ⟨g, 4, none⟩ = some (.int .i64 j) := (blk_cell S2.pv 4).trans rfl
  have k5 : W2.cell? ⟨g, 5, none⟩ = some (.slice A1 l1.length c1) := (blk_cell S2.pv 5).trans rfl
  have k6 : W2.cell? ⟨g, 6, none⟩ = some (.slice A2 l2.length c2) := (blk_cell S2.pv 6).trans rfl
  have x2 : W2.cell? ⟨w.heap.size + 1 + 1, 2, none⟩ = some (.int .i64 0) := (blk_cell S2.b2 2).trans rfl
  have f2 : W2.frozen? ⟨w.heap.size + 1 + 1, 2, none⟩ = false := blk_frozen S2.b2 2
  go_quiet (fail)
  go_upto_region 8 with (fail)
  have S3 := (S2.drewN nq).put2 2 (.int .i64 (-1))
  clear k3 k4 k5 k6 x2 f2
  generalize (W2.drewN nq).setCell _ _ = W3 at *
  clear S2
  have x0 : W3.cell? ⟨w.heap.size + 1, 0, none⟩ = some (.int .i64 (0)) := (blk_cell S3.b1 0).trans rfl
  have x1 : W3.cell? ⟨w.heap.size + 1, 1, none⟩ = some (.int .i64 (0)) := (blk_cell S3.b1 1).trans rfl
  have x2 : W3.cell? ⟨w.heap.size + 1, 2, none⟩ = some (.int .i64 (-1)) := (blk_cell S3.b1 2).trans rfl
  have u0 : W3.cell? ⟨w.heap.size + 1 + 1, 0, none⟩ = some (.int .i64 (0)) := (blk_cell S3.b2 0).trans rfl
  have u1 : W3.cell? ⟨w.heap.size + 1 + 1, 1, none⟩ = some (.int .i64 (0)) := (blk_cell S3.b2 1).trans rfl
  have u2 : W3.cell? ⟨w.heap.size + 1 + 1, 2, none⟩ = some (.int .i64 (-1)) := (blk_cell S3.b2 2).trans rfl
  have hR := S3.bR
  go_wp2_with (refine wpList_store_row rfl 70 (.tmp 2) _ rfl w.heap.size #[.int .i64 (0), .int .i64 (0), .int .i64 (-1)] rfl rfl 70 _ hR (by kernel_rfl) rfl (by simp [Value.oneCell']) ?_)
  have q0 : (W3.setRow w.heap.size #[.int .i64 (0), .int .i64 (0), .int .i64 (-1)]).cell? ⟨w.heap.size, 0, none⟩ = some (.int .i64 (0)) := (blk_cell (setRow_heap W3 w.heap.size _ #[.int .i64 (0), .int .i64 (0), .int .i64 (-1)] _ _ hR) 0).trans rfl
  have q1 : (W3.setRow w.heap.size #[.int .i64 (0), .int .i64 (0), .int .i64 (-1)]).cell? ⟨w.heap.size, 1, none⟩ = some (.int .i64 (0)) := (blk_cell (setRow_heap W3 w.heap.size _ #[.int .i64 (0), .int .i64 (0), .int .i64 (-1)] _ _ hR) 1).trans rfl
  have q2 : (W3.setRow w.heap.size #[.int .i64 (0), .int .i64 (0), .int .i64 (-1)]).cell? ⟨w.heap.size, 2, none⟩ = some (.int .i64 (-1)) := (blk_cell (setRow_heap W3 w.heap.size _ #[.int .i64 (0), .int .i64 (0), .int .i64 (-1)] _ _ hR) 2).trans rfl
  exact bodyPost_ret (v := .agg #[.int .i64 (0), .int .i64 (0), .int .i64 (-1)]) (by simp [results, Try.results53, go_sem, q0, q1, q2]) rfl ⟨rfl, below_setRow S3.below (Nat.le_refl _) _⟩
set_option maxHeartbeats 8000000 in
set_option maxRecDepth 100000 in
theorem sel_1 (g : Nat) (a b p i j : Int) (l1 l2 : List S63) (A1 : Option Addr) (c1 : Nat) (A2 : Option Addr) (c2 : Nat) (w : World) (hp : PV w g a b p i j A1 l1.length c1 A2 l2.length c2)
    (hc1 : Kd.C k63 w A1 l1.length l1) (hc2 : Kd.C k63 w A2 l2.length l2) (hi : 0 ≤ i) (hj : 0 ≤ j) (h1 : i < (l1.length : Int)) (h2 : (l2.length : Int) ≤ j) :
    Calls Try.prog 53 #[.pointer (some ⟨g, 0, none⟩)] w fun e w' => e = .returned (.agg #[.int .i64 ((rd_T63 l1 i).f0), .int .i64 ((rd_T63 l1 i).f1), .int .i64 (0)]) ∧ Below w.heap.size w w' := by
  obtain ⟨ad1, e1, y01, y11⟩ := at_T63 hc1 i hi h1
  cases e1
  clear hc1 hc2
  have S := Sel.start (g := g) w hp.row
  clear hp
  go_enter Try.func53, Try.ntmps53
  go_wp2
  generalize ((w.alloc _).alloc _).alloc _ = W at *
  have k3 : W.cell? ⟨g, 3, none⟩ = some (.int .i64 i) := (blk_cell S.pv 3).trans rfl
  have k4 : W.cell? ⟨g, 4, none⟩ = some (.int .i64 j) := (blk_cell S.pv 4).trans rfl
  have k5 : W.cell? ⟨g, 5, none⟩ = some (.slice (some ad1) l1.length c1) := (blk_cell S.pv 5).trans rfl
  have k6 : W.cell? ⟨g, 6, none⟩ = some (.slice A2 l2.length c2) := (blk_cell S.pv 6).trans rfl
  go_quiet (fail)
  go_wp2
  clear k3 k4 k5 k6
  refine start_ (n := 12) (S := Sel w w.heap.size g (pvRow a b p i j (some ad1) l1.length c1 A2 l2.length c2) #[.int .i64 0, .int .i64 0, .int .i64 0] #[.int .i64 0, .int .i64 0, .int .i64 0]) (ds := [11]) #[false, false, false, false, false, false, false, false, false, false, false, false] (by kernel_rfl) rfl rfl ((S.drewN nq).drew) (fun hHeld => ?_)
  refine pure_ (i := 0) (N := some 16) (v := ?_) (a' := ?_) #[true, false, false, false, false, false, false, false, false, false, false, false] rfl rfl (by kernel_rfl) (fun _ _ _ h => h) (Or.inl ⟨by rfl, ?_⟩) ?_ ?_
  rotate_left
  · intro w'
    go_simp
    with_reducible rfl
  rotate_left
  · simp only [Act.put, List.setIfInBounds_toArray, List.set_cons_zero, List.set_cons_succ, i64_w, i32_w]
    rfl
  refine pure_ (i := 1) (N := some 17) (v := ?_) (a' := ?_) #[true, true, false, false, false, false, false, false, false, false, false, false] rfl rfl (by kernel_rfl) (fun _ _ _ h => h) (Or.inl ⟨by rfl, ?_⟩) ?_ ?_
  rotate_left
  · intro w'
    go_simp
    with_reducible rfl
  rotate_left
  · simp only [Act.put, List.setIfInBounds_toArray, List.set_cons_zero, List.set_cons_succ, i64_w, i32_w]
    rfl
  refine pure_ (i := 2) (N := some 18) (v := ?_) (a' := ?_) #[true, true, true, false, false, false, false, false, false, false, false, false] rfl rfl (by kernel_rfl) (fun _ _ _ h => h) (Or.inl ⟨by rfl, ?_⟩) ?_ ?_
  rotate_left
  · intro w'
    go_simp
    with_reducible rfl
  rotate_left
  · simp only [Act.put, List.setIfInBounds_toArray, List.set_cons_zero, List.set_cons_succ, i64_w, i32_w]
    rfl
  refine take_ (i := 3) (N := some 19) (v := ?_) (a' := ?_) #[true, true, true, true, false, false, false, false, false, false, false, false] rfl rfl (by kernel_rfl) (fun _ _ _ h => h) (Or.inl ⟨by rfl, ?_⟩) hHeld ?_ ?_
  rotate_left
  · intro w' hs
    have k5 : w'.cell? ⟨g, 5, none⟩ = some (.slice (some ad1) l1.length c1) := (blk_cell hs.pv 5).trans rfl
    clear hs
    go_simp
    with_reducible rfl
  rotate_left
  · simp only [Act.put, List.setIfInBounds_toArray, List.set_cons_zero, List.set_cons_succ, i64_w, i32_w]
    rfl
  refine pure_ (i := 4) (N := some 20) (v := ?_) (a' := ?_) #[true, true, true, true, true, false, false, false, false, false, false, false] rfl rfl (by kernel_rfl) (fun _ _ _ h => h) (Or.inl ⟨by rfl, ?_⟩) ?_ ?_
  rotate_left
  · intro w'
    go_simp
    with_reducible rfl
  rotate_left
  · simp only [Act.put, List.setIfInBounds_toArray, List.set_cons_zero, List.set_cons_succ, i64_w, i32_w]
    rfl
  refine pure_ (i := 5) (N := some 21) (v := ?_) (a' := ?_) #[true, true, true, true, true, true, false, false, false, false, false, false] rfl rfl (by kernel_rfl) (fun _ _ _ h => h) (Or.inl ⟨by rfl, ?_⟩) ?_ ?_
  rotate_left
  · intro w'
    go_simp
    with_reducible rfl
  rotate_left
  · simp only [Act.put, List.setIfInBounds_toArray, List.set_cons_zero, List.set_cons_succ, i64_w, i32_w]
    rfl
  refine pure_ (i := 6) (N := some 22) (v := ?_) (a' := ?_) #[true, true, true, true, true, true, true, false, false, false, false, false] rfl rfl (by kernel_rfl) (fun _ _ _ h => h) (Or.inl ⟨by rfl, ?_⟩) ?_ ?_
  rotate_left
  · intro w'
    go_simp
    with_reducible rfl
  rotate_left
  · simp only [Act.put, List.setIfInBounds_toArray, List.set_cons_zero, List.set_cons_succ, i64_w, i32_w]
    rfl
  refine take_ (i := 7) (N := some 23) (v := ?_) (a' := ?_) #[true, true, true, true, true, true, true, true, false, false, false, false] rfl rfl (by kernel_rfl) (fun _ _ _ h => h) (Or.inl ⟨by rfl, ?_⟩) hHeld ?_ ?_
  rotate_left
  · intro w' hs
    have k3 : w'.cell? ⟨g, 3, none⟩ = some (.int .i64 i) := (blk_cell hs.pv 3).trans rfl
    clear hs
    go_simp
    with_reducible rfl
  rotate_left
  · simp only [Act.put, List.setIfInBounds_toArray, List.set_cons_zero, List.set_cons_succ, i64_w, i32_w]
    rfl
  refine pure_ (i := 8) (N := some 24) (v := ?_) (a' := ?_) #[true, true, true, true, true, true, true, true, true, false, false, false] rfl rfl (by kernel_rfl) (fun _ _ _ h => h) (Or.inl ⟨by rfl, ?_⟩) ?_ ?_
  rotate_left
  · intro w'
    go_simp
    rfl
  rotate_left
  · simp only [Act.put, List.setIfInBounds_toArray, List.set_cons_zero, List.set_cons_succ, i64_w, i32_w]
    rfl
  refine take_ (i := 9) (N := some 25) (v := ?_) (a' := ?_) #[true, true, true, true, true, true, true, true, true, true, false, false] rfl rfl (by kernel_rfl) (fun _ _ _ h => h) (Or.inl ⟨by rfl, ?_⟩) hHeld ?_ ?_
  rotate_left
  · intro w' hs
    have y0' := cell_below' hs.below y01
    have y1' := cell_below' hs.below y11
    clear hs
    go_simp
    with_reducible rfl
  rotate_left
  · simp only [Act.put, List.setIfInBounds_toArray, List.set_cons_zero, List.set_cons_succ, i64_w, i32_w]
    rfl
  refine pure_ (i := 10) (N := some 26) (v := ?_) (a' := ?_) #[true, true, true, true, true, true, true, true, true, true, true, false] rfl rfl (by kernel_rfl) (fun _ _ _ h => h) (Or.inl ⟨by rfl, ?_⟩) ?_ ?_
  rotate_left
  · intro w'
    go_simp
    with_reducible rfl
  rotate_left
  · simp only [Act.put, List.setIfInBounds_toArray, List.set_cons_zero, List.set_cons_succ, i64_w, i32_w]
    rfl
  refine last_ (i := 11) (N := none) #[true, true, true, true, true, true, true, true, true, true, true, true] rfl rfl (by kernel_rfl) (by decide) (fun K hK => ?_)
  rw [if_pos (by rfl)]
  refine wp_store_row 70 (.tmp 3) (.tmp 26) rfl (w.heap.size + 1) #[.int .i64 (rd_T63 l1 i).f0, .int .i64 (rd_T63 l1 i).f1, .int .i64 0] rfl rfl 70 _ hHeld.b1 (by kernel_rfl) rfl (by simp [Value.oneCell']) ?_
  refine hK.out _ _ ?_
  clear hK K
  refine done_ (by kernel_rfl) ?_
  have S2 := hHeld.row1 #[.int .i64 (rd_T63 l1 i).f0, .int .i64 (rd_T63 l1 i).f1, .int .i64 0]
  generalize World.setRow _ (w.heap.size + 1) _ = W2 at *
  clear hHeld S
  go_wp2
  have k3 : W2.cell? ⟨g, 3, none⟩ = some (.int .i64 i) := (blk_cell S2.pv 3).trans rfl
  have k4 : W2.cell? ⟨g, 4, none⟩ = some (.int .i64 j) := (blk_cell S2.pv 4).trans rfl
  have k5 : W2.cell? ⟨g, 5, none⟩ = some (.slice (some ad1) l1.length c1) := (blk_cell S2.pv 5).trans rfl
  have k6 : W2.cell? ⟨g, 6, none⟩ = some (.slice A2 l2.length c2) := (blk_cell S2.pv 6).trans rfl
  have x2 : W2.cell? ⟨w.heap.size + 1 + 1, 2, none⟩ = some (.int .i64 0) := (blk_cell S2.b2 2).trans rfl
  have f2 : W2.frozen? ⟨w.heap.size + 1 + 1, 2, none⟩ = false := blk_frozen S2.b2 2
  go_quiet (fail)
  go_upto_region 8 with (fail)
  have S3 := (S2.drewN nq).put2 2 (.int .i64 (-1))
  clear k3 k4 k5 k6 x2 f2
  generalize (W2.drewN nq).setCell _ _ = W3 at *
  clear S2
  have x0 : W3.cell? ⟨w.heap.size + 1, 0, none⟩ = some (.int .i64 ((rd_T63 l1 i).f0)) := (blk_cell S3.b1 0).trans rfl
  have x1 : W3.cell? ⟨w.heap.size + 1, 1, none⟩ = some (.int .i64 ((rd_T63 l1 i).f1)) := (blk_cell S3.b1 1).trans rfl
  have x2 : W3.cell? ⟨w.heap.size + 1, 2, none⟩ = some (.int .i64 (0)) := (blk_cell S3.b1 2).trans rfl
  have u0 : W3.cell? ⟨w.heap.size + 1 + 1, 0, none⟩ = some (.int .i64 (0)) := (blk_cell S3.b2 0).trans rfl
  have u1 : W3.cell? ⟨w.heap.size + 1 + 1, 1, none⟩ = some (.int .i64 (0)) := (blk_cell S3.b2 1).trans rfl
  have u2 : W3.cell? ⟨w.heap.size + 1 + 1, 2, none⟩ = some (.int .i64 (-1)) := (blk_cell S3.b2 2).trans rfl
  have hR := S3.bR
  go_wp2_with (refine wpList_store_row rfl 70 (.tmp 2) _ rfl w.heap.size #[.int .i64 ((rd_T63 l1 i).f0), .int .i64 ((rd_T63 l1 i).f1), .int .i64 (0)] rfl rfl 70 _ hR (by kernel_rfl) rfl (by simp [Value.oneCell']) ?_)
  have q0 : (W3.setRow w.heap.size #[.int .i64 ((rd_T63 l1 i).f0), .int .i64 ((rd_T63 l1 i).f1), .int .i64 (0)]).cell? ⟨w.heap.size, 0, none⟩ = some (.int .i64 ((rd_T63 l1 i).f0)) := (blk_cell (setRow_heap W3 w.heap.size _ #[.int .i64 ((rd_T63 l1 i).f0), .int .i64 ((rd_T63 l1 i).f1), .int .i64 (0)] _ _ hR) 0).trans rfl
  have q1 : (W3.setRow w.heap.size #[.int .i64 ((rd_T63 l1 i).f0), .int .i64 ((rd_T63 l1 i).f1), .int .i64 (0)]).cell? ⟨w.heap.size, 1, none⟩ = some (.int .i64 ((rd_T63 l1 i).f1)) := (blk_cell (setRow_heap W3 w.heap.size _ #[.int .i64 ((rd_T63 l1 i).f0), .int .i64 ((rd_T63 l1 i).f1), .int .i64 (0)] _ _ hR) 1).trans rfl
  have q2 : (W3.setRow w.heap.size #[.int .i64 ((rd_T63 l1 i).f0), .int .i64 ((rd_T63 l1 i).f1), .int .i64 (0)]).cell? ⟨w.heap.size, 2, none⟩ = some (.int .i64 (0)) := (blk_cell (setRow_heap W3 w.heap.size _ #[.int .i64 ((rd_T63 l1 i).f0), .int .i64 ((rd_T63 l1 i).f1), .int .i64 (0)] _ _ hR) 2).trans rfl
  exact bodyPost_ret (v := .agg #[.int .i64 ((rd_T63 l1 i).f0), .int .i64 ((rd_T63 l1 i).f1), .int .i64 (0)]) (by simp [results, Try.results53, go_sem, q0, q1, q2]) rfl ⟨rfl, below_setRow S3.below (Nat.le_refl _) _⟩
set_option maxHeartbeats 8000000 in
set_option maxRecDepth 100000 in
theorem sel_2 (g : Nat) (a b p i j : Int) (l1 l2 : List S63) (A1 : Option Addr) (c1 : Nat) (A2 : Option Addr) (c2 : Nat) (w : World) (hp : PV w g a b p i j A1 l1.length c1 A2 l2.length c2)
    (hc1 : Kd.C k63 w A1 l1.length l1) (hc2 : Kd.C k63 w A2 l2.length l2) (hi : 0 ≤ i) (hj : 0 ≤ j) (h1 : (l1.length : Int) ≤ i) (h2 : j < (l2.length : Int)) :
    Calls Try.prog 53 #[.pointer (some ⟨g, 0, none⟩)] w fun e w' => e = .returned (.agg #[.int .i64 ((rd_T63 l2 j).f0), .int .i64 ((rd_T63 l2 j).f1), .int .i64 (1)]) ∧ Below w.heap.size w w' := by
  obtain ⟨ad2, e2, y02, y12⟩ := at_T63 hc2 j hj h2
  cases e2
  clear hc1 hc2
  have S := Sel.start (g := g) w hp.row
  clear hp
  go_enter Try.func53, Try.ntmps53
  go_wp2
  generalize ((w.alloc _).alloc _).alloc _ = W at *
  have k3 : W.cell? ⟨g, 3, none⟩ = some (.int .i64 i) := (blk_cell S.pv 3).trans rfl
  have k4 : W.cell? ⟨g, 4, none⟩ = some (.int .i64 j) := (blk_cell S.pv 4).trans rfl
  have k5 : W.cell? ⟨g, 5, none⟩ = some (.slice A1 l1.length c1) := (blk_cell S.pv 5).trans rfl
  have k6 : W.cell? ⟨g, 6, none⟩ = some (.slice (some ad2) l2.length c2) := (blk_cell S.pv 6).trans rfl
  have x2 : W.cell? ⟨w.heap.size + 1, 2, none⟩ = some (.int .i64 0) := (blk_cell S.b1 2).trans rfl
  have f2 : W.frozen? ⟨w.heap.size + 1, 2, none⟩ = false := blk_frozen S.b1 2
  go_quiet (fail)
  go_wp2
  have S2 := (S.drewN nq).put1 2 (.int .i64 (-1))
  clear k3 k4 k5 k6 x2 f2
  generalize (W.drewN nq).setCell _ _ = W2 at *
  clear S
  have k3 : W2.cell? ⟨g, 3, none⟩ = some (.int .i64 i) := (blk_cell S2.pv 3).trans rfl
  have k4 : W2.cell? ⟨g, 4, none⟩ = some (.int .i64 j) := (blk_cell S2.pv 4).trans rfl
  have k5 : W2.cell? ⟨g, 5, none⟩ = some (.slice A1 l1.length c1) := (blk_cell S2.pv 5).trans rfl
  have k6 : W2.cell? ⟨g, 6, none⟩ = some (.slice (some ad2) l2.length c2) := (blk_cell S2.pv 6).trans rfl
  go_quiet (fail)
  go_wp2
  clear k3 k4 k5 k6
  refine start_ (n := 12) (S := Sel w w.heap.size g (pvRow a b p i j A1 l1.length c1 (some ad2) l2.length c2) (#[.int .i64 0, .int .i64 0, .int .i64 0].setIfInBounds 2 (.int .i64 (-1))) #[.int .i64 0, .int .i64 0, .int .i64 0]) (ds := [11]) #[false, false, false, false, false, false, false, false, false, false, false, false] (by kernel_rfl) rfl rfl ((S2.drewN nq).drew) (fun hHeld => ?_)
  refine pure_ (i := 0) (N := some 38) (v := ?_) (a' := ?_) #[true, false, false, false, false, false, false, false, false, false, false, false] rfl rfl (by kernel_rfl) (fun _ _ _ h => h) (Or.inl ⟨by rfl, ?_⟩) ?_ ?_
  rotate_left
  · intro w'
    go_simp
    with_reducible rfl
  rotate_left
  · simp only [Act.put, List.setIfInBounds_toArray, List.set_cons_zero, List.set_cons_succ, i64_w, i32_w]
    rfl
  refine pure_ (i := 1) (N := some 39) (v := ?_) (a' := ?_) #[true, true, false, false, false, false, false, false, false, false, false, false] rfl rfl (by kernel_rfl) (fun _ _ _ h => h) (Or.inl ⟨by rfl, ?_⟩) ?_ ?_
  rotate_left
  · intro w'
    go_simp
    with_reducible rfl
  rotate_left
  · simp only [Act.put, List.setIfInBounds_toArray, List.set_cons_zero, List.set_cons_succ, i64_w, i32_w]
    rfl
  refine pure_ (i := 2) (N := some 40) (v := ?_) (a' := ?_) #[true, true, true, false, false, false, false, false, false, false, false, false] rfl rfl (by kernel_rfl) (fun _ _ _ h => h) (Or.inl ⟨by rfl, ?_⟩) ?_ ?_
  rotate_left
  · intro w'
    go_simp
    with_reducible rfl
  rotate_left
  · simp only [Act.put, List.setIfInBounds_toArray, List.set_cons_zero, List.set_cons_succ, i64_w, i32_w]
    rfl
  refine take_ (i := 3) (N := some 41) (v := ?_) (a' := ?_) #[true, true, true, true, false, false, false, false, false, false, false, false] rfl rfl (by kernel_rfl) (fun _ _ _ h => h) (Or.inl ⟨by rfl, ?_⟩) hHeld ?_ ?_
  rotate_left
  · intro w' hs
    have k6 : w'.cell? ⟨g, 6, none⟩ = some (.slice (some ad2) l2.length c2) := (blk_cell hs.pv 6).trans rfl
    clear hs
    go_simp
    with_reducible rfl
  rotate_left
  · simp only [Act.put, List.setIfInBounds_toArray, List.set_cons_zero, List.set_cons_succ, i64_w, i32_w]
    rfl
  refine pure_ (i := 4) (N := some 42) (v := ?_) (a' := ?_) #[true, true, true, true, true, false, false, false, false, false, false, false] rfl rfl (by kernel_rfl) (fun _ _ _ h => h) (Or.inl ⟨by rfl, ?_⟩) ?_ ?_
  rotate_left
  · intro w'
    go_simp
    with_reducible rfl
  rotate_left
  · simp only [Act.put, List.setIfInBounds_toArray, List.set_cons_zero, List.set_cons_succ, i64_w, i32_w]
    rfl
  refine pure_ (i := 5) (N := some 43) (v := ?_) (a' := ?_) #[true, true, true, true, true, true, false, false, false, false, false, false] rfl rfl (by kernel_rfl) (fun _ _ _ h => h) (Or.inl ⟨by rfl, ?_⟩) ?_ ?_
  rotate_left
  · intro w'
    go_simp
    with_reducible rfl
  rotate_left
  · simp only [Act.put, List.setIfInBounds_toArray, List.set_cons_zero, List.set_cons_succ, i64_w, i32_w]
    rfl
  refine pure_ (i := 6) (N := some 44) (v := ?_) (a' := ?_) #[true, true, true, true, true, true, true, false, false, false, false, false] rfl rfl (by kernel_rfl) (fun _ _ _ h => h) (Or.inl ⟨by rfl, ?_⟩) ?_ ?_
  rotate_left
  · intro w'
    go_simp
    with_reducible rfl
  rotate_left
  · simp only [Act.put, List.setIfInBounds_toArray, List.set_cons_zero, List.set_cons_succ, i64_w, i32_w]
    rfl
  refine take_ (i := 7) (N := some 45) (v := ?_) (a' := ?_) #[true, true, true, true, true, true, true, true, false, false, false, false] rfl rfl (by kernel_rfl) (fun _ _ _ h => h) (Or.inl ⟨by rfl, ?_⟩) hHeld ?_ ?_
  rotate_left
  · intro w' hs
    have k4 : w'.cell? ⟨g, 4, none⟩ = some (.int .i64 j) := (blk_cell hs.pv 4).trans rfl
    clear hs
    go_simp
    with_reducible rfl
  rotate_left
  · simp only [Act.put, List.setIfInBounds_toArray, List.set_cons_zero, List.set_cons_succ, i64_w, i32_w]
    rfl
  refine pure_ (i := 8) (N := some 46) (v := ?_) (a' := ?_) #[true, true, true, true, true, true, true, true, true, false, false, false] rfl rfl (by kernel_rfl) (fun _ _ _ h => h) (Or.inl ⟨by rfl, ?_⟩) ?_ ?_
  rotate_left
  · intro w'
    go_simp
    rfl
  rotate_left
  · simp only [Act.put, List.setIfInBounds_toArray, List.set_cons_zero, List.set_cons_succ, i64_w, i32_w]
    rfl
  refine take_ (i := 9) (N := some 47) (v := ?_) (a' := ?_) #[true, true, true, true, true, true, true, true, true, true, false, false] rfl rfl (by kernel_rfl) (fun _ _ _ h => h) (Or.inl ⟨by rfl, ?_⟩) hHeld ?_ ?_
  rotate_left
  · intro w' hs
    have y0' := cell_below' hs.below y02
    have y1' := cell_below' hs.below y12
    clear hs
    go_simp
    with_reducible rfl
  rotate_left
  · simp only [Act.put, List.setIfInBounds_toArray, List.set_cons_zero, List.set_cons_succ, i64_w, i32_w]
    rfl
  refine pure_ (i := 10) (N := some 48) (v := ?_) (a' := ?_) #[true, true, true, true, true, true, true, true, true, true, true, false] rfl rfl (by kernel_rfl) (fun _ _ _ h => h) (Or.inl ⟨by rfl, ?_⟩) ?_ ?_
  rotate_left
  · intro w'
    go_simp
    with_reducible rfl
  rotate_left
  · simp only [Act.put, List.setIfInBounds_toArray, List.set_cons_zero, List.set_cons_succ, i64_w, i32_w]
    rfl
  refine last_ (i := 11) (N := none) #[true, true, true, true, true, true, true, true, true, true, true, true] rfl rfl (by kernel_rfl) (by decide) (fun K hK => ?_)
  rw [if_pos (by rfl)]
  refine wp_store_row 70 (.tmp 4) (.tmp 48) rfl (w.heap.size + 1 + 1) #[.int .i64 (rd_T63 l2 j).f0, .int .i64 (rd_T63 l2 j).f1, .int .i64 1] rfl rfl 70 _ hHeld.b2 (by kernel_rfl) rfl (by simp [Value.oneCell']) ?_
  refine hK.out _ _ ?_
  clear hK K
  refine done_ (by kernel_rfl) ?_
  have S3 := hHeld.row2 #[.int .i64 (rd_T63 l2 j).f0, .int .i64 (rd_T63 l2 j).f1, .int .i64 1]
  generalize World.setRow _ (w.heap.size + 1 + 1) _ = W3 at *
  clear hHeld S2
  go_upto_region 8 with (fail)
  have x0 : W3.cell? ⟨w.heap.size + 1, 0, none⟩ = some (.int .i64 (0)) := (blk_cell S3.b1 0).trans rfl
  have x1 : W3.cell? ⟨w.heap.size + 1, 1, none⟩ = some (.int .i64 (0)) := (blk_cell S3.b1 1).trans rfl
  have x2 : W3.cell? ⟨w.heap.size + 1, 2, none⟩ = some (.int .i64 (-1)) := (blk_cell S3.b1 2).trans rfl
  have u0 : W3.cell? ⟨w.heap.size + 1 + 1, 0, none⟩ = some (.int .i64 ((rd_T63 l2 j).f0)) := (blk_cell S3.b2 0).trans rfl
  have u1 : W3.cell? ⟨w.heap.size + 1 + 1, 1, none⟩ = some (.int .i64 ((rd_T63 l2 j).f1)) := (blk_cell S3.b2 1).trans rfl
  have u2 : W3.cell? ⟨w.heap.size + 1 + 1, 2, none⟩ = some (.int .i64 (1)) := (blk_cell S3.b2 2).trans rfl
  have hR := S3.bR
  go_wp2_with (refine wpList_store_row rfl 70 (.tmp 2) _ rfl w.heap.size #[.int .i64 ((rd_T63 l2 j).f0), .int .i64 ((rd_T63 l2 j).f1), .int .i64 (1)] rfl rfl 70 _ hR (by kernel_rfl) rfl (by simp [Value.oneCell']) ?_)
  have q0 : (W3.setRow w.heap.size #[.int .i64 ((rd_T63 l2 j).f0), .int .i64 ((rd_T63 l2 j).f1), .int .i64 (1)]).cell? ⟨w.heap.size, 0, none⟩ = some (.int .i64 ((rd_T63 l2 j).f0)) := (blk_cell (setRow_heap W3 w.heap.size _ #[.int .i64 ((rd_T63 l2 j).f0), .int .i64 ((rd_T63 l2 j).f1), .int .i64 (1)] _ _ hR) 0).trans rfl
  have q1 : (W3.setRow w.heap.size #[.int .i64 ((rd_T63 l2 j).f0), .int .i64 ((rd_T63 l2 j).f1), .int .i64 (1)]).cell? ⟨w.heap.size, 1, none⟩ = some (.int .i64 ((rd_T63 l2 j).f1)) := (blk_cell (setRow_heap W3 w.heap.size _ #[.int .i64 ((rd_T63 l2 j).f0), .int .i64 ((rd_T63 l2 j).f1), .int .i64 (1)] _ _ hR) 1).trans rfl
  have q2 : (W3.setRow w.heap.size #[.int .i64 ((rd_T63 l2 j).f0), .int .i64 ((rd_T63 l2 j).f1), .int .i64 (1)]).cell? ⟨w.heap.size, 2, none⟩ = some (.int .i64 (1)) := (blk_cell (setRow_heap W3 w.heap.size _ #[.int .i64 ((rd_T63 l2 j).f0), .int .i64 ((rd_T63 l2 j).f1), .int .i64 (1)] _ _ hR) 2).trans rfl
  exact bodyPost_ret (v := .agg #[.int .i64 ((rd_T63 l2 j).f0), .int .i64 ((rd_T63 l2 j).f1), .int .i64 (1)]) (by simp [results, Try.results53, go_sem, q0, q1, q2]) rfl ⟨rfl, below_setRow S3.below (Nat.le_refl _) _⟩
set_option maxHeartbeats 8000000 in
set_option maxRecDepth 100000 in
theorem sel_l (g : Nat) (a b p i j : Int) (l1 l2 : List S63) (A1 : Option Addr) (c1 : Nat) (A2 : Option Addr) (c2 : Nat) (w : World) (hp : PV w g a b p i j A1 l1.length c1 A2 l2.length c2)
    (hc1 : Kd.C k63 w A1 l1.length l1) (hc2 : Kd.C k63 w A2 l2.length l2) (hi : 0 ≤ i) (hj : 0 ≤ j) (h1 : i < (l1.length : Int)) (h2 : j < (l2.length : Int)) (h3 : (rd_T63 l1 i).f0 ≤ (rd_T63 l2 j).f0) :
    Calls Try.prog 53 #[.pointer (some ⟨g, 0, none⟩)] w fun e w' => e = .returned (.agg #[.int .i64 ((rd_T63 l1 i).f0), .int .i64 ((rd_T63 l1 i).f1), .int .i64 (0)]) ∧ Below w.heap.size w w' := by
  obtain ⟨ad1, e1, y01, y11⟩ := at_T63 hc1 i hi h1
  cases e1
  obtain ⟨ad2, e2, y02, y12⟩ := at_T63 hc2 j hj h2
  cases e2
  clear hc1 hc2
  have S := Sel.start (g := g) w hp.row
  clear hp
  go_enter Try.func53, Try.ntmps53
  go_wp2
  generalize ((w.alloc _).alloc _).alloc _ = W at *
  have k3 : W.cell? ⟨g, 3, none⟩ = some (.int .i64 i) := (blk_cell S.pv 3).trans rfl
  have k4 : W.cell? ⟨g, 4, none⟩ = some (.int .i64 j) := (blk_cell S.pv 4).trans rfl
  have k5 : W.cell? ⟨g, 5, none⟩ = some (.slice (some ad1) l1.length c1) := (blk_cell S.pv 5).trans rfl
  have k6 : W.cell? ⟨g, 6, none⟩ = some (.slice (some ad2) l2.length c2) := (blk_cell S.pv 6).trans rfl
  go_quiet (fail)
  go_wp2
  clear k3 k4 k5 k6
  refine start_ (n := 12) (S := Sel w w.heap.size g (pvRow a b p i j (some ad1) l1.length c1 (some ad2) l2.length c2) #[.int .i64 0, .int .i64 0, .int .i64 0] #[.int .i64 0, .int .i64 0, .int .i64 0]) (ds := [11]) #[false, false, false, false, false, false, false, false, false, false, false, false] (by kernel_rfl) rfl rfl ((S.drewN nq).drew) (fun hHeld => ?_)
  refine pure_ (i := 0) (N := some 16) (v := ?_) (a' := ?_) #[true, false, false, false, false, false, false, false, false, false, false, false] rfl rfl (by kernel_rfl) (fun _ _ _ h => h) (Or.inl ⟨by rfl, ?_⟩) ?_ ?_
  rotate_left
  · intro w'
    go_simp
    with_reducible rfl
  rotate_left
  · simp only [Act.put, List.setIfInBounds_toArray, List.set_cons_zero, List.set_cons_succ, i64_w, i32_w]
    rfl
  refine pure_ (i := 1) (N := some 17) (v := ?_) (a' := ?_) #[true, true, false, false, false, false, false, false, false, false, false, false] rfl rfl (by kernel_rfl) (fun _ _ _ h => h) (Or.inl ⟨by rfl, ?_⟩) ?_ ?_
  rotate_left
  · intro w'
    go_simp
    with_reducible rfl
  rotate_left
  · simp only [Act.put, List.setIfInBounds_toArray, List.set_cons_zero, List.set_cons_succ, i64_w, i32_w]
    rfl
  refine pure_ (i := 2) (N := some 18) (v := ?_) (a' := ?_) #[true, true, true, false, false, false, false, false, false, false, false, false] rfl rfl (by kernel_rfl) (fun _ _ _ h => h) (Or.inl ⟨by rfl, ?_⟩) ?_ ?_
  rotate_left
  · intro w'
    go_simp
    with_reducible rfl
  rotate_left
  · simp only [Act.put, List.setIfInBounds_toArray, List.set_cons_zero, List.set_cons_succ, i64_w, i32_w]
    rfl
  refine take_ (i := 3) (N := some 19) (v := ?_) (a' := ?_) #[true, true, true, true, false, false, false, false, false, false, false, false] rfl rfl (by kernel_rfl) (fun _ _ _ h => h) (Or.inl ⟨by rfl, ?_⟩) hHeld ?_ ?_
  rotate_left
  · intro w' hs
    have k5 : w'.cell? ⟨g, 5, none⟩ = some (.slice (some ad1) l1.length c1) := (blk_cell hs.pv 5).trans rfl
    clear hs
    go_simp
    with_reducible rfl
  rotate_left
  · simp only [Act.put, List.setIfInBounds_toArray, List.set_cons_zero, List.set_cons_succ, i64_w, i32_w]
    rfl
  refine pure_ (i := 4) (N := some 20) (v := ?_) (a' := ?_) #[true, true, true, true, true, false, false, false, false, false, false, false] rfl rfl (by kernel_rfl) (fun _ _ _ h => h) (Or.inl ⟨by rfl, ?_⟩) ?_ ?_
  rotate_left
  · intro w'
    go_simp
    with_reducible rfl
  rotate_left
  · simp only [Act.put, List.setIfInBounds_toArray, List.set_cons_zero, List.set_cons_succ, i64_w, i32_w]
    rfl
  refine pure_ (i := 5) (N := some 21) (v := ?_) (a' := ?_) #[true, true, true, true, true, true, false, false, false, false, false, false] rfl rfl (by kernel_rfl) (fun _ _ _ h => h) (Or.inl ⟨by rfl, ?_⟩) ?_ ?_
  rotate_left
  · intro w'
    go_simp
    with_reducible rfl
  rotate_left
  · simp only [Act.put, List.setIfInBounds_toArray, List.set_cons_zero, List.set_cons_succ, i64_w, i32_w]
    rfl
  refine pure_ (i := 6) (N := some 22) (v := ?_) (a' := ?_) #[true, true, true, true, true, true, true, false, false, false, false, false] rfl rfl (by kernel_rfl) (fun _ _ _ h => h) (Or.inl ⟨by rfl, ?_⟩) ?_ ?_
  rotate_left
  · intro w'
    go_simp
    with_reducible rfl
  rotate_left
  · simp only [Act.put, List.setIfInBounds_toArray, List.set_cons_zero, List.set_cons_succ, i64_w, i32_w]
    rfl
  refine take_ (i := 7) (N := some 23) (v := ?_) (a' := ?_) #[true, true, true, true, true, true, true, true, false, false, false, false] rfl rfl (by kernel_rfl) (fun _ _ _ h => h) (Or.inl ⟨by rfl, ?_⟩) hHeld ?_ ?_
  rotate_left
  · intro w' hs
    have k3 : w'.cell? ⟨g, 3, none⟩ = some (.int .i64 i) := (blk_cell hs.pv 3).trans rfl
    clear hs
    go_simp
    with_reducible rfl
  rotate_left
  · simp only [Act.put, List.setIfInBounds_toArray, List.set_cons_zero, List.set_cons_succ, i64_w, i32_w]
    rfl
  refine pure_ (i := 8) (N := some 24) (v := ?_) (a' := ?_) #[true, true, true, true, true, true, true, true, true, false, false, false] rfl rfl (by kernel_rfl) (fun _ _ _ h => h) (Or.inl ⟨by rfl, ?_⟩) ?_ ?_
  rotate_left
  · intro w'
    go_simp
    rfl
  rotate_left
  · simp only [Act.put, List.setIfInBounds_toArray, List.set_cons_zero, List.set_cons_succ, i64_w, i32_w]
    rfl
  refine take_ (i := 9) (N := some 25) (v := ?_) (a' := ?_) #[true, true, true, true, true, true, true, true, true, true, false, false] rfl rfl (by kernel_rfl) (fun _ _ _ h => h) (Or.inl ⟨by rfl, ?_⟩) hHeld ?_ ?_
  rotate_left
  · intro w' hs
    have y0' := cell_below' hs.below y01
    have y1' := cell_below' hs.below y11
    clear hs
    go_simp
    with_reducible rfl
  rotate_left
  · simp only [Act.put, List.setIfInBounds_toArray, List.set_cons_zero, List.set_cons_succ, i64_w, i32_w]
    rfl
  refine pure_ (i := 10) (N := some 26) (v := ?_) (a' := ?_) #[true, true, true, true, true, true, true, true, true, true, true, false] rfl rfl (by kernel_rfl) (fun _ _ _ h => h) (Or.inl ⟨by rfl, ?_⟩) ?_ ?_
  rotate_left
  · intro w'
    go_simp
    with_reducible rfl
  rotate_left
  · simp only [Act.put, List.setIfInBounds_toArray, List.set_cons_zero, List.set_cons_succ, i64_w, i32_w]
    rfl
  refine last_ (i := 11) (N := none) #[true, true, true, true, true, true, true, true, true, true, true, true] rfl rfl (by kernel_rfl) (by decide) (fun K hK => ?_)
  rw [if_pos (by rfl)]
  refine wp_store_row 70 (.tmp 3) (.tmp 26) rfl (w.heap.size + 1) #[.int .i64 (rd_T63 l1 i).f0, .int .i64 (rd_T63 l1 i).f1, .int .i64 0] rfl rfl 70 _ hHeld.b1 (by kernel_rfl) rfl (by simp [Value.oneCell']) ?_
  refine hK.out _ _ ?_
  clear hK K
  refine done_ (by kernel_rfl) ?_
  have S2 := hHeld.row1 #[.int .i64 (rd_T63 l1 i).f0, .int .i64 (rd_T63 l1 i).f1, .int .i64 0]
  generalize World.setRow _ (w.heap.size + 1) _ = W2 at *
  clear hHeld S
  go_wp2
  have k3 : W2.cell? ⟨g, 3, none⟩ = some (.int .i64 i) := (blk_cell S2.pv 3).trans rfl
  have k4 : W2.cell? ⟨g, 4, none⟩ = some (.int .i64 j) := (blk_cell S2.pv 4).trans rfl
  have k5 : W2.cell? ⟨g, 5, none⟩ = some (.slice (some ad1) l1.length c1) := (blk_cell S2.pv 5).trans rfl
  have k6 : W2.cell? ⟨g, 6, none⟩ = some (.slice (some ad2) l2.length c2) := (blk_cell S2.pv 6).trans rfl
  go_quiet (fail)
  go_wp2
  clear k3 k4 k5 k6
  refine start_ (n := 12) (S := Sel w w.heap.size g (pvRow a b p i j (some ad1) l1.length c1 (some ad2) l2.length c2) #[.int .i64 (rd_T63 l1 i).f0, .int .i64 (rd_T63 l1 i).f1, .int .i64 0] #[.int .i64 0, .int .i64 0, .int .i64 0]) (ds := [11]) #[false, false, false, false, false, false, false, false, false, false, false, false] (by kernel_rfl) rfl rfl ((S2.drewN nq).drew) (fun hHeld => ?_)
  refine pure_ (i := 0) (N := some 38) (v := ?_) (a' := ?_) #[true, false, false, false, false, false, false, false, false, false, false, false] rfl rfl (by kernel_rfl) (fun _ _ _ h => h) (Or.inl ⟨by rfl, ?_⟩) ?_ ?_
  rotate_left
  · intro w'
    go_simp
    with_reducible rfl
  rotate_left
  · simp only [Act.put, List.setIfInBounds_toArray, List.set_cons_zero, List.set_cons_succ, i64_w, i32_w]
    rfl
  refine pure_ (i := 1) (N := some 39) (v := ?_) (a' := ?_) #[true, true, false, false, false, false, false, false, false, false, false, false] rfl rfl (by kernel_rfl) (fun _ _ _ h => h) (Or.inl ⟨by rfl, ?_⟩) ?_ ?_
  rotate_left
  · intro w'
    go_simp
    with_reducible rfl
  rotate_left
  · simp only [Act.put, List.setIfInBounds_toArray, List.set_cons_zero, List.set_cons_succ, i64_w, i32_w]
    rfl
  refine pure_ (i := 2) (N := some 40) (v := ?_) (a' := ?_) #[true, true, true, false, false, false, false, false, false, false, false, false] rfl rfl (by kernel_rfl) (fun _ _ _ h => h) (Or.inl ⟨by rfl, ?_⟩) ?_ ?_
  rotate_left
  · intro w'
    go_simp
    with_reducible rfl
  rotate_left
  · simp only [Act.put, List.setIfInBounds_toArray, List.set_cons_zero, List.set_cons_succ, i64_w, i32_w]
    rfl
  refine take_ (i := 3) (N := some 41) (v := ?_) (a' := ?_) #[true, true, true, true, false, false, false, false, false, false, false, false] rfl rfl (by kernel_rfl) (fun _ _ _ h => h) (Or.inl ⟨by rfl, ?_⟩) hHeld ?_ ?_
  rotate_left
  · intro w' hs
    have k6 : w'.cell? ⟨g, 6, none⟩ = some (.slice (some ad2) l2.length c2) := (blk_cell hs.pv 6).trans rfl
    clear hs
    go_simp
    with_reducible rfl
  rotate_left
  · simp only [Act.put, List.setIfInBounds_toArray, List.set_cons_zero, List.set_cons_succ, i64_w, i32_w]
    rfl
  refine pure_ (i := 4) (N := some 42) (v := ?_) (a' := ?_) #[true, true, true, true, true, false, false, false, false, false, false, false] rfl rfl (by kernel_rfl) (fun _ _ _ h => h) (Or.inl ⟨by rfl, ?_⟩) ?_ ?_
  rotate_left
  · intro w'
    go_simp
    with_reducible rfl
  rotate_left
  · simp only [Act.put, List.setIfInBounds_toArray, List.set_cons_zero, List.set_cons_succ, i64_w, i32_w]
    rfl
  refine pure_ (i := 5) (N := some 43) (v := ?_) (a' := ?_) #[true, true, true, true, true, true, false, false, false, false, false, false] rfl rfl (by kernel_rfl) (fun _ _ _ h => h) (Or.inl ⟨by rfl, ?_⟩) ?_ ?_
  rotate_left
  · intro w'
    go_simp
    with_reducible rfl
  rotate_left
  · simp only [Act.put, List.setIfInBounds_toArray, List.set_cons_zero, List.set_cons_succ, i64_w, i32_w]
    rfl
  refine pure_ (i := 6) (N := some 44) (v := ?_) (a' := ?_) #[true, true, true, true, true, true, true, false, false, false, false, false] rfl rfl (by kernel_rfl) (fun _ _ _ h => h) (Or.inl ⟨by rfl, ?_⟩) ?_ ?_
  rotate_left
  · intro w'
    go_simp
    with_reducible rfl
  rotate_left
  · simp only [Act.put, List.setIfInBounds_toArray, List.set_cons_zero, List.set_cons_succ, i64_w, i32_w]
    rfl
  refine take_ (i := 7) (N := some 45) (v := ?_) (a' := ?_) #[true, true, true, true, true, true, true, true, false, false, false, false] rfl rfl (by kernel_rfl) (fun _ _ _ h => h) (Or.inl ⟨by rfl, ?_⟩) hHeld ?_ ?_
  rotate_left
  · intro w' hs
    have k4 : w'.cell? ⟨g, 4, none⟩ = some (.int .i64 j) := (blk_cell hs.pv 4).trans rfl
    clear hs
    go_simp
    with_reducible rfl
  rotate_left
  · simp only [Act.put, List.setIfInBounds_toArray, List.set_cons_zero, List.set_cons_succ, i64_w, i32_w]
    rfl
  refine pure_ (i := 8) (N := some 46) (v := ?_) (a' := ?_) #[true, true, true, true, true, true, true, true, true, false, false, false] rfl rfl (by kernel_rfl) (fun _ _ _ h => h) (Or.inl ⟨by rfl, ?_⟩) ?_ ?_
  rotate_left
  · intro w'
    go_simp
    rfl
  rotate_left
  · simp only [Act.put, List.setIfInBounds_toArray, List.set_cons_zero, List.set_cons_succ, i64_w, i32_w]
    rfl
  refine take_ (i := 9) (N := some 47) (v := ?_) (a' := ?_) #[true, true, true, true, true, true, true, true, true, true, false, false] rfl rfl (by kernel_rfl) (fun _ _ _ h => h) (Or.inl ⟨by rfl, ?_⟩) hHeld ?_ ?_
  rotate_left
  · intro w' hs
    have y0' := cell_below' hs.below y02
    have y1' := cell_below' hs.below y12
    clear hs
    go_simp
    with_reducible rfl
  rotate_left
  · simp only [Act.put, List.setIfInBounds_toArray, List.set_cons_zero, List.set_cons_succ, i64_w, i32_w]
    rfl
  refine pure_ (i := 10) (N := some 48) (v := ?_) (a' := ?_) #[true, true, true, true, true, true, true, true, true, true, true, false] rfl rfl (by kernel_rfl) (fun _ _ _ h => h) (Or.inl ⟨by rfl, ?_⟩) ?_ ?_
  rotate_left
  · intro w'
    go_simp
    with_reducible rfl
  rotate_left
  · simp only [Act.put, List.setIfInBounds_toArray, List.set_cons_zero, List.set_cons_succ, i64_w, i32_w]
    rfl
  refine last_ (i := 11) (N := none) #[true, true, true, true, true, true, true, true, true, true, true, true] rfl rfl (by kernel_rfl) (by decide) (fun K hK => ?_)
  rw [if_pos (by rfl)]
  refine wp_store_row 70 (.tmp 4) (.tmp 48) rfl (w.heap.size + 1 + 1) #[.int .i64 (rd_T63 l2 j).f0, .int .i64 (rd_T63 l2 j).f1, .int .i64 1] rfl rfl 70 _ hHeld.b2 (by kernel_rfl) rfl (by simp [Value.oneCell']) ?_
  refine hK.out _ _ ?_
  clear hK K
  refine done_ (by kernel_rfl) ?_
  have S3 := hHeld.row2 #[.int .i64 (rd_T63 l2 j).f0, .int .i64 (rd_T63 l2 j).f1, .int .i64 1]
  generalize World.setRow _ (w.heap.size + 1 + 1) _ = W3 at *
  clear hHeld S2
  go_upto_region 8 with (fail)
  have x0 : W3.cell? ⟨w.heap.size + 1, 0, none⟩ = some (.int .i64 ((rd_T63 l1 i).f0)) := (blk_cell S3.b1 0).trans rfl
  have x1 : W3.cell? ⟨w.heap.size + 1, 1, none⟩ = some (.int .i64 ((rd_T63 l1 i).f1)) := (blk_cell S3.b1 1).trans rfl
  have x2 : W3.cell? ⟨w.heap.size + 1, 2, none⟩ = some (.int .i64 (0)) := (blk_cell S3.b1 2).trans rfl
  have u0 : W3.cell? ⟨w.heap.size + 1 + 1, 0, none⟩ = some (.int .i64 ((rd_T63 l2 j).f0)) := (blk_cell S3.b2 0).trans rfl
  have u1 : W3.cell? ⟨w.heap.size + 1 + 1, 1, none⟩ = some (.int .i64 ((rd_T63 l2 j).f1)) := (blk_cell S3.b2 1).trans rfl
  have u2 : W3.cell? ⟨w.heap.size + 1 + 1, 2, none⟩ = some (.int .i64 (1)) := (blk_cell S3.b2 2).trans rfl
  have hR := S3.bR
  go_wp2_with (refine wpList_store_row rfl 70 (.tmp 2) _ rfl w.heap.size #[.int .i64 ((rd_T63 l1 i).f0), .int .i64 ((rd_T63 l1 i).f1), .int .i64 (0)] rfl rfl 70 _ hR (by kernel_rfl) rfl (by simp [Value.oneCell']) ?_)
  have q0 : (W3.setRow w.heap.size #[.int .i64 ((rd_T63 l1 i).f0), .int .i64 ((rd_T63 l1 i).f1), .int .i64 (0)]).cell? ⟨w.heap.size, 0, none⟩ = some (.int .i64 ((rd_T63 l1 i).f0)) := (blk_cell (setRow_heap W3 w.heap.size _ #[.int .i64 ((rd_T63 l1 i).f0), .int .i64 ((rd_T63 l1 i).f1), .int .i64 (0)] _ _ hR) 0).trans rfl
  have q1 : (W3.setRow w.heap.size #[.int .i64 ((rd_T63 l1 i).f0), .int .i64 ((rd_T63 l1 i).f1), .int .i64 (0)]).cell? ⟨w.heap.size, 1, none⟩ = some (.int .i64 ((rd_T63 l1 i).f1)) := (blk_cell (setRow_heap W3 w.heap.size _ #[.int .i64 ((rd_T63 l1 i).f0), .int .i64 ((rd_T63 l1 i).f1), .int .i64 (0)] _ _ hR) 1).trans rfl
  have q2 : (W3.setRow w.heap.size #[.int .i64 ((rd_T63 l1 i).f0), .int .i64 ((rd_T63 l1 i).f1), .int .i64 (0)]).cell? ⟨w.heap.size, 2, none⟩ = some (.int .i64 (0)) := (blk_cell (setRow_heap W3 w.heap.size _ #[.int .i64 ((rd_T63 l1 i).f0), .int .i64 ((rd_T63 l1 i).f1), .int .i64 (0)] _ _ hR) 2).trans rfl
  exact bodyPost_ret (v := .agg #[.int .i64 ((rd_T63 l1 i).f0), .int .i64 ((rd_T63 l1 i).f1), .int .i64 (0)]) (by simp [results, Try.results53, go_sem, q0, q1, q2]) rfl ⟨rfl, below_setRow S3.below (Nat.le_refl _) _⟩
set_option maxHeartbeats 8000000 in
set_option maxRecDepth 100000 in
theorem sel_g (g : Nat) (a b p i j : Int) (l1 l2 : List S63) (A1 : Option Addr) (c1 : Nat) (A2 : Option Addr) (c2 : Nat) (w : World) (hp : PV w g a b p i j A1 l1.length c1 A2 l2.length c2)
    (hc1 : Kd.C k63 w A1 l1.length l1) (hc2 : Kd.C k63 w A2 l2.length l2) (hi : 0 ≤ i) (hj : 0 ≤ j) (h1 : i < (l1.length : Int)) (h2 : j < (l2.length : Int)) (h3 : (rd_T63 l2 j).f0 < (rd_T63 l1 i).f0) :
    Calls Try.prog 53 #[.pointer (some ⟨g, 0, none⟩)] w fun e w' => e = .returned (.agg #[.int .i64 ((rd_T63 l2 j).f0), .int .i64 ((rd_T63 l2 j).f1), .int .i64 (1)]) ∧ Below w.heap.size w w' := by
  obtain ⟨ad1, e1, y01, y11⟩ := at_T63 hc1 i hi h1
  cases e1
  obtain ⟨ad2, e2, y02, y12⟩ := at_T63 hc2 j hj h2
  cases e2
  clear hc1 hc2
  have S := Sel.start (g := g) w hp.row
  clear hp
  go_enter Try.func53, Try.ntmps53
  go_wp2
  generalize ((w.alloc _).alloc _).alloc _ = W at *
  have k3 : W.cell? ⟨g, 3, none⟩ = some (.int .i64 i) := (blk_cell S.pv 3).trans rfl
  have k4 : W.cell? ⟨g, 4, none⟩ = some (.int .i64 j) := (blk_cell S.pv 4).trans rfl
  have k5 : W.cell? ⟨g, 5, none⟩ = some (.slice (some ad1) l1.length c1) := (blk_cell S.pv 5).trans rfl
  have k6 : W.cell? ⟨g, 6, none⟩ = some (.slice (some ad2) l2.length c2) := (blk_cell S.pv 6).trans rfl
  go_quiet (fail)
  go_wp2
  clear k3 k4 k5 k6
  refine start_ (n := 12) (S := Sel w w.heap.size g (pvRow a b p i j (some ad1) l1.length c1 (some ad2) l2.length c2) #[.int .i64 0, .int .i64 0, .int .i64 0] #[.int .i64 0, .int .i64 0, .int .i64 0]) (ds := [11]) #[false, false, false, false, false, false, false, false, false, false, false, false] (by kernel_rfl) rfl rfl ((S.drewN nq).drew) (fun hHeld => ?_)
  refine pure_ (i := 0) (N := some 16) (v := ?_) (a' := ?_) #[true, false, false, false, false, false, false, false, false, false, false, false] rfl rfl (by kernel_rfl) (fun _ _ _ h => h) (Or.inl ⟨by rfl, ?_⟩) ?_ ?_
  rotate_left
  · intro w'
    go_simp
    with_reducible rfl
  rotate_left
  · simp only [Act.put, List.setIfInBounds_toArray, List.set_cons_zero, List.set_cons_succ, i64_w, i32_w]
    rfl
  refine pure_ (i := 1) (N := some 17) (v := ?_) (a' := ?_) #[true, true, false, false, false, false, false, false, false, false, false, false] rfl rfl (by kernel_rfl) (fun _ _ _ h => h) (Or.inl ⟨by rfl, ?_⟩) ?_ ?_
  rotate_left
  · intro w'
    go_simp
    with_reducible rfl
  rotate_left
  · simp only [Act.put, List.setIfInBounds_toArray, List.set_cons_zero, List.set_cons_succ, i64_w, i32_w]
    rfl
  refine pure_ (i := 2) (N := some 18) (v := ?_) (a' := ?_) #[true, true, true, false, false, false, false, false, false, false, false, false] rfl rfl (by kernel_rfl) (fun _ _ _ h => h) (Or.inl ⟨by rfl, ?_⟩) ?_ ?_
  rotate_left
  · intro w'
    go_simp
    with_reducible rfl
  rotate_left
  · simp only [Act.put, List.setIfInBounds_toArray, List.set_cons_zero, List.set_cons_succ, i64_w, i32_w]
    rfl
  refine take_ (i := 3) (N := some 19) (v := ?_) (a' := ?_) #[true, true, true, true, false, false, false, false, false, false, false, false] rfl rfl (by kernel_rfl) (fun _ _ _ h => h) (Or.inl ⟨by rfl, ?_⟩) hHeld ?_ ?_
  rotate_left
  · intro w' hs
    have k5 : w'.cell? ⟨g, 5, none⟩ = some (.slice (some ad1) l1.length c1) := (blk_cell hs.pv 5).trans rfl
    clear hs
    go_simp
    with_reducible rfl
  rotate_left
  · simp only [Act.put, List.setIfInBounds_toArray, List.set_cons_zero, List.set_cons_succ, i64_w, i32_w]
    rfl
  refine pure_ (i := 4) (N := some 20) (v := ?_) (a' := ?_) #[true, true, true, true, true, false, false, false, false, false, false, false] rfl rfl (by kernel_rfl) (fun _ _ _ h => h) (Or.inl ⟨by rfl, ?_⟩) ?_ ?_
  rotate_left
  · intro w'
    go_simp
    with_reducible rfl
  rotate_left
  · simp only [Act.put, List.setIfInBounds_toArray, List.set_cons_zero, List.set_cons_succ, i64_w, i32_w]
    rfl
  refine pure_ (i := 5) (N := some 21) (v := ?_) (a' := ?_) #[true, true, true, true, true, true, false, false, false, false, false, false] rfl rfl (by kernel_rfl) (fun _ _ _ h => h) (Or.inl ⟨by rfl, ?_⟩) ?_ ?_
  rotate_left
  · intro w'
    go_simp
    with_reducible rfl
  rotate_left
  · simp only [Act.put, List.setIfInBounds_toArray, List.set_cons_zero, List.set_cons_succ, i64_w, i32_w]
    rfl
  refine pure_ (i := 6) (N := some 22) (v := ?_) (a' := ?_) #[true, true, true, true, true, true, true, false, false, false, false, false] rfl rfl (by kernel_rfl) (fun _ _ _ h => h) (Or.inl ⟨by rfl, ?_⟩) ?_ ?_
  rotate_left
  · intro w'
    go_simp
    with_reducible rfl
  rotate_left
  · simp only [Act.put, List.setIfInBounds_toArray, List.set_cons_zero, List.set_cons_succ, i64_w, i32_w]
    rfl
  refine take_ (i := 7) (N := some 23) (v := ?_) (a' := ?_) #[true, true, true, true, true, true, true, true, false, false, false, false] rfl rfl (by kernel_rfl) (fun _ _ _ h => h) (Or.inl ⟨by rfl, ?_⟩) hHeld ?_ ?_
  rotate_left
  · intro w' hs
    have k3 : w'.cell? ⟨g, 3, none⟩ = some (.int .i64 i) := (blk_cell hs.pv 3).trans rfl
    clear hs
    go_simp
    with_reducible rfl
  rotate_left
  · simp only [Act.put, List.setIfInBounds_toArray, List.set_cons_zero, List.set_cons_succ, i64_w, i32_w]
    rfl
  refine pure_ (i := 8) (N := some 24) (v := ?_) (a' := ?_) #[true, true, true, true, true, true, true, true, true, false, false, false] rfl rfl (by kernel_rfl) (fun _ _ _ h => h) (Or.inl ⟨by rfl, ?_⟩) ?_ ?_
  rotate_left
  · intro w'
    go_simp
    rfl
  rotate_left
  · simp only [Act.put, List.setIfInBounds_toArray, List.set_cons_zero, List.set_cons_succ, i64_w, i32_w]
    rfl
  refine take_ (i := 9) (N := some 25) (v := ?_) (a' := ?_) #[true, true, true, true, true, true, true, true, true, true, false, false] rfl rfl (by kernel_rfl) (fun _ _ _ h => h) (Or.inl ⟨by rfl, ?_⟩) hHeld ?_ ?_
  rotate_left
  · intro w' hs
    have y0' := cell_below' hs.below y01
    have y1' := cell_below' hs.below y11
    clear hs
    go_simp
    with_reducible rfl
  rotate_left
  · simp only [Act.put, List.setIfInBounds_toArray, List.set_cons_zero, List.set_cons_succ, i64_w, i32_w]
    rfl
  refine pure_ (i := 10) (N := some 26) (v := ?_) (a' := ?_) #[true, true, true, true, true, true, true, true, true, true, true, false] rfl rfl (by kernel_rfl) (fun _ _ _ h => h) (Or.inl ⟨by rfl, ?_⟩) ?_ ?_
  rotate_left
  · intro w'
    go_simp
    with_reducible rfl
  rotate_left
  · simp only [Act.put, List.setIfInBounds_toArray, List.set_cons_zero, List.set_cons_succ, i64_w, i32_w]
    rfl
  refine last_ (i := 11) (N := none) #[true, true, true, true, true, true, true, true, true, true, true, true] rfl rfl (by kernel_rfl) (by decide) (fun K hK => ?_)
  rw [if_pos (by rfl)]
  refine wp_store_row 70 (.tmp 3) (.tmp 26) rfl (w.heap.size + 1) #[.int .i64 (rd_T63 l1 i).f0, .int .i64 (rd_T63 l1 i).f1, .int .i64 0] rfl rfl 70 _ hHeld.b1 (by kernel_rfl) rfl (by simp [Value.oneCell']) ?_
  refine hK.out _ _ ?_
  clear hK K
  refine done_ (by kernel_rfl) ?_
  have S2 := hHeld.row1 #[.int .i64 (rd_T63 l1 i).f0, .int .i64 (rd_T63 l1 i).f1, .int .i64 0]
  generalize World.setRow _ (w.heap.size + 1) _ = W2 at *
  clear hHeld S
  go_wp2
  have k3 : W2.cell? ⟨g, 3, none⟩ = some (.int .i64 i) := (blk_cell S2.pv 3).trans rfl
  have k4 : W2.cell? ⟨g, 4, none⟩ = some (.int .i64 j) := (blk_cell S2.pv 4).trans rfl
  have k5 : W2.cell? ⟨g, 5, none⟩ = some (.slice (some ad1) l1.length c1) := (blk_cell S2.pv 5).trans rfl
  have k6 : W2.cell? ⟨g, 6, none⟩ = some (.slice (some ad2) l2.length c2) := (blk_cell S2.pv 6).trans rfl
  go_quiet (fail)
  go_wp2
  clear k3 k4 k5 k6
  refine start_ (n := 12) (S := Sel w w.heap.size g (pvRow a b p i j (some ad1) l1.length c1 (some ad2) l2.length c2) #[.int .i64 (rd_T63 l1 i).f0, .int .i64 (rd_T63 l1 i).f1, .int .i64 0] #[.int .i64 0, .int .i64 0, .int .i64 0]) (ds := [11]) #[false, false, false, false, false, false, false, false, false, false, false, false] (by kernel_rfl) rfl rfl ((S2.drewN nq).drew) (fun hHeld => ?_)
  refine pure_ (i := 0) (N := some 38) (v := ?_) (a' := ?_) #[true, false, false, false, false, false, false, false, false, false, false, false] rfl rfl (by kernel_rfl) (fun _ _ _ h => h) (Or.inl ⟨by rfl, ?_⟩) ?_ ?_
  rotate_left
  · intro w'
    go_simp
    with_reducible rfl
  rotate_left
  · simp only [Act.put, List.setIfInBounds_toArray, List.set_cons_zero, List.set_cons_succ, i64_w, i32_w]
    rfl
  refine pure_ (i := 1) (N := some 39) (v := ?_) (a' := ?_) #[true, true, false, false, false, false, false, false, false, false, false, false] rfl rfl (by kernel_rfl) (fun _ _ _ h => h) (Or.inl ⟨by rfl, ?_⟩) ?_ ?_
  rotate_left
  · intro w'
    go_simp
    with_reducible rfl
  rotate_left
  · simp only [Act.put, List.setIfInBounds_toArray, List.set_cons_zero, List.set_cons_succ, i64_w, i32_w]
    rfl
  refine pure_ (i := 2) (N := some 40) (v := ?_) (a' := ?_) #[true, true, true, false, false, false, false, false, false, false, false, false] rfl rfl (by kernel_rfl) (fun _ _ _ h => h) (Or.inl ⟨by rfl, ?_⟩) ?_ ?_
  rotate_left
  · intro w'
    go_simp
    with_reducible rfl
  rotate_left
  · simp only [Act.put, List.setIfInBounds_toArray, List.set_cons_zero, List.set_cons_succ, i64_w, i32_w]
    rfl
  refine take_ (i := 3) (N := some 41) (v := ?_) (a' := ?_) #[true, true, true, true, false, false, false, false, false, false, false, false] rfl rfl (by kernel_rfl) (fun _ _ _ h => h) (Or.inl ⟨by rfl, ?_⟩) hHeld ?_ ?_
  rotate_left
  · intro w' hs
    have k6 : w'.cell? ⟨g, 6, none⟩ = some (.slice (some ad2) l2.length c2) := (blk_cell hs.pv 6).trans rfl
    clear hs
    go_simp
    with_reducible rfl
  rotate_left
  · simp only [Act.put, List.setIfInBounds_toArray, List.set_cons_zero, List.set_cons_succ, i64_w, i32_w]
    rfl
  refine pure_ (i := 4) (N := some 42) (v := ?_) (a' := ?_) #[true, true, true, true, true, false, false, false, false, false, false, false] rfl rfl (by kernel_rfl) (fun _ _ _ h => h) (Or.inl ⟨by rfl, ?_⟩) ?_ ?_
  rotate_left
  · intro w'
    go_simp
    with_reducible rfl
  rotate_left
  · simp only [Act.put, List.setIfInBounds_toArray, List.set_cons_zero, List.set_cons_succ, i64_w, i32_w]
    rfl
  refine pure_ (i := 5) (N := some 43) (v := ?_) (a' := ?_) #[true, true, true, true, true, true, false, false, false, false, false, false] rfl rfl (by kernel_rfl) (fun _ _ _ h => h) (Or.inl ⟨by rfl, ?_⟩) ?_ ?_
  rotate_left
  · intro w'
    go_simp
    with_reducible rfl
  rotate_left
  · simp only [Act.put, List.setIfInBounds_toArray, List.set_cons_zero, List.set_cons_succ, i64_w, i32_w]
    rfl
  refine pure_ (i := 6) (N := some 44) (v := ?_) (a' := ?_) #[true, true, true, true, true, true, true, false, false, false, false, false] rfl rfl (by kernel_rfl) (fun _ _ _ h => h) (Or.inl ⟨by rfl, ?_⟩) ?_ ?_
  rotate_left
  · intro w'
    go_simp
    with_reducible rfl
  rotate_left
  · simp only [Act.put, List.setIfInBounds_toArray, List.set_cons_zero, List.set_cons_succ, i64_w, i32_w]
    rfl
  refine take_ (i := 7) (N := some 45) (v := ?_) (a' := ?_) #[true, true, true, true, true, true, true, true, false, false, false, false] rfl rfl (by kernel_rfl) (fun _ _ _ h => h) (Or.inl ⟨by rfl, ?_⟩) hHeld ?_ ?_
  rotate_left
  · intro w' hs
    have k4 : w'.cell? ⟨g, 4, none⟩ = some (.int .i64 j) := (blk_cell hs.pv 4).trans rfl
    clear hs
    go_simp
    with_reducible rfl
  rotate_left
  · simp only [Act.put, List.setIfInBounds_toArray, List.set_cons_zero, List.set_cons_succ, i64_w, i32_w]
    rfl
  refine pure_ (i := 8) (N := some 46) (v := ?_) (a' := ?_) #[true, true, true, true, true, true, true, true, true, false, false, false] rfl rfl (by kernel_rfl) (fun _ _ _ h => h) (Or.inl ⟨by rfl, ?_⟩) ?_ ?_
  rotate_left
  · intro w'
    go_simp
    rfl
  rotate_left
  · simp only [Act.put, List.setIfInBounds_toArray, List.set_cons_zero, List.set_cons_succ, i64_w, i32_w]
    rfl
  refine take_ (i := 9) (N := some 47) (v := ?_) (a' := ?_) #[true, true, true, true, true, true, true, true, true, true, false, false] rfl rfl (by kernel_rfl) (fun _ _ _ h => h) (Or.inl ⟨by rfl, ?_⟩) hHeld ?_ ?_
  rotate_left
  · intro w' hs
    have y0' := cell_below' hs.below y02
    have y1' := cell_below' hs.below y12
    clear hs
    go_simp
    with_reducible rfl
  rotate_left
  · simp only [Act.put, List.setIfInBounds_toArray, List.set_cons_zero, List.set_cons_succ, i64_w, i32_w]
    rfl
  refine pure_ (i := 10) (N := some 48) (v := ?_) (a' := ?_) #[true, true, true, true, true, true, true, true, true, true, true, false] rfl rfl (by kernel_rfl) (fun _ _ _ h => h) (Or.inl ⟨by rfl, ?_⟩) ?_ ?_
  rotate_left
  · intro w'
    go_simp
    with_reducible rfl
  rotate_left
  · simp only [Act.put, List.setIfInBounds_toArray, List.set_cons_zero, List.set_cons_succ, i64_w, i32_w]
    rfl
  refine last_ (i := 11) (N := none) #[true, true, true, true, true, true, true, true, true, true, true, true] rfl rfl (by kernel_rfl) (by decide) (fun K hK => ?_)
  rw [if_pos (by rfl)]
  refine wp_store_row 70 (.tmp 4) (.tmp 48) rfl (w.heap.size + 1 + 1) #[.int .i64 (rd_T63 l2 j).f0, .int .i64 (rd_T63 l2 j).f1, .int .i64 1] rfl rfl 70 _ hHeld.b2 (by kernel_rfl) rfl (by simp [Value.oneCell']) ?_
  refine hK.out _ _ ?_
  clear hK K
  refine done_ (by kernel_rfl) ?_
  have S3 := hHeld.row2 #[.int .i64 (rd_T63 l2 j).f0, .int .i64 (rd_T63 l2 j).f1, .int .i64 1]
  generalize World.setRow _ (w.heap.size + 1 + 1) _ = W3 at *
  clear hHeld S2
  go_upto_region 8 with (fail)
  have x0 : W3.cell? ⟨w.heap.size + 1, 0, none⟩ = some (.int .i64 ((rd_T63 l1 i).f0)) := (blk_cell S3.b1 0).trans rfl
  have x1 : W3.cell? ⟨w.heap.size + 1, 1, none⟩ = some (.int .i64 ((rd_T63 l1 i).f1)) := (blk_cell S3.b1 1).trans rfl
  have x2 : W3.cell? ⟨w.heap.size + 1, 2, none⟩ = some (.int .i64 (0)) := (blk_cell S3.b1 2).trans rfl
  have u0 : W3.cell? ⟨w.heap.size + 1 + 1, 0, none⟩ = some (.int .i64 ((rd_T63 l2 j).f0)) := (blk_cell S3.b2 0).trans rfl
  have u1 : W3.cell? ⟨w.heap.size + 1 + 1, 1, none⟩ = some (.int .i64 ((rd_T63 l2 j).f1)) := (blk_cell S3.b2 1).trans rfl
  have u2 : W3.cell? ⟨w.heap.size + 1 + 1, 2, none⟩ = some (.int .i64 (1)) := (blk_cell S3.b2 2).trans rfl
  have hR := S3.bR
  go_wp2_with (refine wpList_store_row rfl 70 (.tmp 2) _ rfl w.heap.size #[.int .i64 ((rd_T63 l2 j).f0), .int .i64 ((rd_T63 l2 j).f1), .int .i64 (1)] rfl rfl 70 _ hR (by kernel_rfl) rfl (by simp [Value.oneCell']) ?_)
  have q0 : (W3.setRow w.heap.size #[.int .i64 ((rd_T63 l2 j).f0), .int .i64 ((rd_T63 l2 j).f1), .int .i64 (1)]).cell? ⟨w.heap.size, 0, none⟩ = some (.int .i64 ((rd_T63 l2 j).f0)) := (blk_cell (setRow_heap W3 w.heap.size _ #[.int .i64 ((rd_T63 l2 j).f0), .int .i64 ((rd_T63 l2 j).f1), .int .i64 (1)] _ _ hR) 0).trans rfl
  have q1 : (W3.setRow w.heap.size #[.int .i64 ((rd_T63 l2 j).f0), .int .i64 ((rd_T63 l2 j).f1), .int .i64 (1)]).cell? ⟨w.heap.size, 1, none⟩ = some (.int .i64 ((rd_T63 l2 j).f1)) := (blk_cell (setRow_heap W3 w.heap.size _ #[.int .i64 ((rd_T63 l2 j).f0), .int .i64 ((rd_T63 l2 j).f1), .int .i64 (1)] _ _ hR) 1).trans rfl
  have q2 : (W3.setRow w.heap.size #[.int .i64 ((rd_T63 l2 j).f0), .int .i64 ((rd_T63 l2 j).f1), .int .i64 (1)]).cell? ⟨w.heap.size, 2, none⟩ = some (.int .i64 (1)) := (blk_cell (setRow_heap W3 w.heap.size _ #[.int .i64 ((rd_T63 l2 j).f0), .int .i64 ((rd_T63 l2 j).f1), .int .i64 (1)] _ _ hR) 2).trans rfl
  exact bodyPost_ret (v := .agg #[.int .i64 ((rd_T63 l2 j).f0), .int .i64 ((rd_T63 l2 j).f1), .int .i64 (1)]) (by simp [results, Try.results53, go_sem, q0, q1, q2]) rfl ⟨rfl, below_setRow S3.below (Nat.le_refl _) _⟩
end Go.Proofs.Ytmfffeoodlmnbaa.Se
