/- FnMergeIntoIs, FnMergeIntoOrder: the walk of impl.MergeInto. -/
import Derived.Test.YtfnhbjpflpbebaaMg
import Derived.Laws.CopyOwn
namespace Go.Proofs.Ytfnhbjpflpbebaa.Mi
set_option linter.unusedSimpArgs false
open Go.RowKit Go.Proofs.YtfnhbjpflpbebaaW.PrintWords Go.Proofs.YtfnhbjpflpbebaaW.PrintLast Go.Proofs.Ytfnhbjpflpbebaa.Kit Go.Proofs.Ytfnhbjpflpbebaa.PFnMergeIntoIs Go.Proofs.Ytfnhbjpflpbebaa.Mg
theorem c50 (a b : Int) (w : World) : Calls Try.prog 50 #[.int .i64 a, .int .i64 b] w fun e w' => e = .returned (.agg #[.int .i64 a, .int .i64 b]) ∧ Below w.heap.size w w' :=
  intervals_NewInterval.calls a b a b w rfl
theorem c52 (a b : Int) (w : World) : Calls Try.prog 52 #[.agg #[.int .i64 a, .int .i64 b]] w fun e w' => e = .returned (.tuple #[.int .i64 a, .int .i64 b]) ∧ Below w.heap.size w w' :=
  intervals_Interval_Bounds.calls a b a b w rfl
theorem three (w : World) (o1 o2 o3 : Obj) : (((w.alloc o1).alloc o2).alloc o3).heap[w.heap.size + 1]? = some o2 ∧ (((w.alloc o1).alloc o2).alloc o3).heap[w.heap.size + 2]? = some o3 ∧ (((w.alloc o1).alloc o2).alloc o3).heap.size = w.heap.size + 3 := by
  exact ⟨blk_alloc (by have := blk_new (w.alloc o1) o2; simpa using this) _, by have := blk_new ((w.alloc o1).alloc o2) o3; simpa using this, by simp⟩
structure S2 (w0 : World) (q : Nat) (w : World) : Prop where
  bo : w.heap[q]? = some (.cells #[.int .i64 0, .int .i64 0] 45 (0, 0))
  below : Below w0.heap.size w0 w
theorem S2.drew {w0 : World} {q : Nat} {w : World} (h : S2 w0 q w) : S2 w0 q w.drew := ⟨h.bo, h.below.drew⟩
set_option maxHeartbeats 8000000 in
set_option maxRecDepth 100000 in
theorem c32_yes (a b c d x y : Int) (h51 : ∀ (p : Nat) (w : World), w.heap[p]? = some (.cells #[.int .i64 a, .int .i64 b] 52 (0, 0)) → Calls Try.prog 51 #[.pointer (some ⟨p, 0, none⟩), .agg #[.int .i64 c, .int .i64 d]] w fun e w' =>
      e = .returned .nilIface ∧ w'.heap[p]? = some (.cells #[.int .i64 x, .int .i64 y] 52 (0, 0)) ∧ Below p w w') (w : World) :
    Calls Try.prog 32 #[.agg #[.int .i64 a, .int .i64 b], .agg #[.int .i64 c, .int .i64 d]] w fun e w' => e = .returned (.tuple #[.agg #[.int .i64 x, .int .i64 y], .bool true]) ∧ Below w.heap.size w w' := by
  have hu52 := Try.underlying52
  have hu45 := Try.underlying45
  have H51 := Lib.hid h51
  clear h51
  go_enter Try.func32, Try.ntmps32
  go_wp2_with (first
    | (go_at_call_of 50 (Value.int .i64 a); refine (c50 _ _ _).mono ?_; rintro e w5 ⟨rfl, hb⟩
       obtain ⟨t1, t2, t3⟩ := three w (Obj.cells #[.int .i64 a, .int .i64 b] 45 (0, 0)) (Obj.cells #[.int .i64 c, .int .i64 d] 45 (0, 0)) (Obj.cells #[.int .i64 0, .int .i64 0] 45 (0, 0))
       have kt := blk_below t1 hb
       have ko := blk_below t2 hb
       have hB : Below w.heap.size w w5 := ((((Below.refl _ _).alloc (Nat.le_refl _) _).alloc (by simp) _).alloc (by simp; omega) _).trans (hb.mono (by rw [t3]; omega))
       have hs5 : w.heap.size + 3 ≤ w5.heap.size := by have := hb.size; rw [t3] at this; exact this
       clear hb t1 t2 t3)
    | ((with_reducible refine gate_dst (N := 6) rfl ?_); refine box_event ?hg (N := 6) ?hd (cs := #[.int .i64 0, .int .i64 0]) (t := 52) ?hr ?_; (case hd => rfl); (case hg => rfl); (case hr => first | (go_simp; done) | (go_simp; rfl)); intro g6 e6 w6 hk6 hb6
       have kt6 := blk_below kt hb6
       have ko6 := blk_below ko hb6
       have hg6 : w.heap.size + 3 ≤ g6 := by rw [e6]; exact hs5
       have hB6 : Below w.heap.size w w6 := hB.trans (hb6.mono (by omega))
       clear kt ko hB hs5 hb6 e6)
    | (refine wpList_store_row rfl 52 (.tmp 6) _ rfl g6 #[.int .i64 a, .int .i64 b] rfl rfl 52 _ hk6 (by kernel_rfl) rfl (by simp [Value.oneCell']) ?_
       have kr := setRow_heap _ g6 _ #[.int .i64 a, .int .i64 b] _ _ hk6
       have kt7 := (setRow_other w6 g6 (w.heap.size + 1) #[.int .i64 a, .int .i64 b] (by omega)).trans kt6
       have ko7 := (setRow_other w6 g6 (w.heap.size + 2) #[.int .i64 a, .int .i64 b] (by omega)).trans ko6
       have hB7 : Below w.heap.size w (w6.setRow g6 #[.int .i64 a, .int .i64 b]) := below_setRow hB6 (by omega) _
       clear hk6 kt6 ko6 hB6
       generalize w6.setRow g6 #[.int .i64 a, .int .i64 b] = w7 at *
       have k0 : w7.cell? ⟨w.heap.size + 1, 0, none⟩ = some (.int .i64 c) := (blk_cell kt7 0).trans rfl
       have k1 : w7.cell? ⟨w.heap.size + 1, 1, none⟩ = some (.int .i64 d) := (blk_cell kt7 1).trans rfl)
    | (go_at_call_of 50 (Value.int .i64 c); refine (c50 _ _ _).mono ?_; rintro e w8 ⟨rfl, hb⟩
       have kr8 := blk_below kr hb
       have ko8 := blk_below ko7 hb
       have hB8 : Below w.heap.size w w8 := hB7.trans (hb.mono (by have := blk_lt ko7; omega))
       clear hb kr ko7 kt7 hB7 k0 k1)
    | (go_at_call 51; refine (H51.out _ _ kr8).mono ?_; rintro e w9 ⟨rfl, kx, hb9⟩
       have ko9 := (hb9.block _ (by omega)).trans ko8
       have hB9 : Below w.heap.size w w9 := hB8.trans (hb9.mono (by omega))
       have j0 : w9.cell? ⟨g6, 0, none⟩ = some (.int .i64 x) := (blk_cell kx 0).trans rfl
       have j1 : w9.cell? ⟨g6, 1, none⟩ = some (.int .i64 y) := (blk_cell kx 1).trans rfl
       clear kr8 ko8 hB8 hb9 kx)
    | (go_at_call 52; refine (c52 _ _ _).mono ?_; rintro e w10 ⟨rfl, hb⟩
       have ko10 := blk_below ko9 hb
       have hB10 : Below w.heap.size w w10 := hB9.trans (hb.mono (by have := blk_lt ko9; omega))
       clear hb ko9 hB9 j0 j1))
  have ko10 : w10.heap[w.heap.size + 1 + 1]? = _ := ko10
  refine start_ (n := 7) (S := S2 w (w.heap.size + 1 + 1)) (ds := [5]) #[false, false, false, false, false, false, false] (by kernel_rfl) rfl rfl (S2.drew ⟨ko10, hB10⟩) (fun hHeld => ?_)
  refine pure_ (i := 0) (N := some 26) (v := ?_) (a' := ?_) #[true, false, false, false, false, false, false] rfl rfl (by kernel_rfl) (fun _ _ _ h => h) (Or.inl ⟨by rfl, ?_⟩) ?_ ?_
  rotate_left
  · intro w'
    go_simp
    with_reducible rfl
  rotate_left
  · simp only [Act.put, List.setIfInBounds_toArray, List.set_cons_zero, List.set_cons_succ, i64_w, i32_w]
    rfl
  refine pure_ (i := 1) (N := some 27) (v := ?_) (a' := ?_) #[true, true, false, false, false, false, false] rfl rfl (by kernel_rfl) (fun _ _ _ h => h) (Or.inl ⟨by rfl, ?_⟩) ?_ ?_
  rotate_left
  · intro w'
    go_simp
    with_reducible rfl
  rotate_left
  · simp only [Act.put, List.setIfInBounds_toArray, List.set_cons_zero, List.set_cons_succ, i64_w, i32_w]
    rfl
  refine pure_ (i := 2) (N := some 28) (v := ?_) (a' := ?_) #[true, true, true, false, false, false, false] rfl rfl (by kernel_rfl) (fun _ _ _ h => h) (Or.inl ⟨by rfl, ?_⟩) ?_ ?_
  rotate_left
  · intro w'
    go_simp
    with_reducible rfl
  rotate_left
  · simp only [Act.put, List.setIfInBounds_toArray, List.set_cons_zero, List.set_cons_succ, i64_w, i32_w]
    rfl
  refine pure_ (i := 3) (N := some 29) (v := ?_) (a' := ?_) #[true, true, true, true, false, false, false] rfl rfl (by kernel_rfl) (fun _ _ _ h => h) (Or.inl ⟨by rfl, ?_⟩) ?_ ?_
  rotate_left
  · intro w'
    go_simp
    with_reducible rfl
  rotate_left
  · simp only [Act.put, List.setIfInBounds_toArray, List.set_cons_zero, List.set_cons_succ, i64_w, i32_w]
    rfl
  refine pure_ (i := 4) (N := some 30) (v := ?_) (a' := ?_) #[true, true, true, true, true, false, false] rfl rfl (by kernel_rfl) (fun _ _ _ h => h) (Or.inl ⟨by rfl, ?_⟩) ?_ ?_
  rotate_left
  · intro w'
    go_simp
    with_reducible rfl
  rotate_left
  · simp only [Act.put, List.setIfInBounds_toArray, List.set_cons_zero, List.set_cons_succ, i64_w, i32_w]
    rfl
  refine last_ (i := 5) (N := none) #[true, true, true, true, true, true, false] rfl rfl (by kernel_rfl) (by decide) (fun K hK => ?_)
  rw [if_pos (by rfl)]
  refine wp_store_row 45 (.tmp 4) (.tmp 28) rfl (w.heap.size + 1 + 1) #[.int .i64 x, .int .i64 y] rfl rfl 45 _ hHeld.bo (by kernel_rfl) rfl (by simp [Value.oneCell']) ?_
  refine hK.out _ _ ?_
  clear hK K
  refine norm_ (a' := ?_) ?_ ?_
  rotate_left
  · show Act.put _ none _ = _
    rfl
  refine pure_ (i := 6) (N := some 5) (v := ?_) (a' := ?_) #[true, true, true, true, true, true, true] rfl rfl (by kernel_rfl) (fun _ _ _ h => h) (Or.inl ⟨by rfl, ?_⟩) ?_ ?_
  rotate_left
  · intro w'
    go_simp
    with_reducible rfl
  rotate_left
  · simp only [Act.put, List.setIfInBounds_toArray, List.set_cons_zero, List.set_cons_succ, i64_w, i32_w]
    rfl
  refine done_ (by kernel_rfl) ?_
  have kq := setRow_heap w10.drew (w.heap.size + 1 + 1) _ #[.int .i64 x, .int .i64 y] _ _ hHeld.bo
  have hBq : Below w.heap.size w (w10.drew.setRow (w.heap.size + 1 + 1) #[.int .i64 x, .int .i64 y]) := below_setRow hHeld.below (by omega) _
  generalize w10.drew.setRow (w.heap.size + 1 + 1) #[.int .i64 x, .int .i64 y] = wf at *
  have q0 : wf.cell? ⟨(w.heap.size + 1 + 1), 0, none⟩ = some (.int .i64 x) := (blk_cell kq 0).trans rfl
  have q1 : wf.cell? ⟨(w.heap.size + 1 + 1), 1, none⟩ = some (.int .i64 y) := (blk_cell kq 1).trans rfl
  go_wp2_with fail
  exact bodyPost_ret (v := .tuple #[.agg #[.int .i64 x, .int .i64 y], .bool true]) (by simp [results, Try.results32, go_sem, q0, q1, hu45]) rfl ⟨rfl, hBq⟩
set_option maxHeartbeats 8000000 in
set_option maxRecDepth 100000 in
theorem c32_no (a b c d x y : Int) (h51 : ∀ (p : Nat) (w : World), w.heap[p]? = some (.cells #[.int .i64 a, .int .i64 b] 52 (0, 0)) → Calls Try.prog 51 #[.pointer (some ⟨p, 0, none⟩), .agg #[.int .i64 c, .int .i64 d]] w fun e w' =>
      (∃ q, e = .returned (.iface 73 (.pointer (some ⟨q, 0, none⟩)))) ∧ w'.heap[p]? = some (.cells #[.int .i64 x, .int .i64 y] 52 (0, 0)) ∧ Below p w w') (w : World) :
    Calls Try.prog 32 #[.agg #[.int .i64 a, .int .i64 b], .agg #[.int .i64 c, .int .i64 d]] w fun e w' => e = .returned (.tuple #[.agg #[.int .i64 x, .int .i64 y], .bool false]) ∧ Below w.heap.size w w' := by
  have hu52 := Try.underlying52
  have hu45 := Try.underlying45
  have H51 := Lib.hid h51
  clear h51
  go_enter Try.func32, Try.ntmps32
  go_wp2_with (first
    | (go_at_call_of 50 (Value.int .i64 a); refine (c50 _ _ _).mono ?_; rintro e w5 ⟨rfl, hb⟩
       obtain ⟨t1, t2, t3⟩ := three w (Obj.cells #[.int .i64 a, .int .i64 b] 45 (0, 0)) (Obj.cells #[.int .i64 c, .int .i64 d] 45 (0, 0)) (Obj.cells #[.int .i64 0, .int .i64 0] 45 (0, 0))
       have kt := blk_below t1 hb
       have ko := blk_below t2 hb
       have hB : Below w.heap.size w w5 := ((((Below.refl _ _).alloc (Nat.le_refl _) _).alloc (by simp) _).alloc (by simp; omega) _).trans (hb.mono (by rw [t3]; omega))
       have hs5 : w.heap.size + 3 ≤ w5.heap.size := by have := hb.size; rw [t3] at this; exact this
       clear hb t1 t2 t3)
    | ((with_reducible refine gate_dst (N := 6) rfl ?_); refine box_event ?hg (N := 6) ?hd (cs := #[.int .i64 0, .int .i64 0]) (t := 52) ?hr ?_; (case hd => rfl); (case hg => rfl); (case hr => first | (go_simp; done) | (go_simp; rfl)); intro g6 e6 w6 hk6 hb6
       have kt6 := blk_below kt hb6
       have ko6 := blk_below ko hb6
       have hg6 : w.heap.size + 3 ≤ g6 := by rw [e6]; exact hs5
       have hB6 : Below w.heap.size w w6 := hB.trans (hb6.mono (by omega))
       clear kt ko hB hs5 hb6 e6)
    | (refine wpList_store_row rfl 52 (.tmp 6) _ rfl g6 #[.int .i64 a, .int .i64 b] rfl rfl 52 _ hk6 (by kernel_rfl) rfl (by simp [Value.oneCell']) ?_
       have kr := setRow_heap _ g6 _ #[.int .i64 a, .int .i64 b] _ _ hk6
       have kt7 := (setRow_other w6 g6 (w.heap.size + 1) #[.int .i64 a, .int .i64 b] (by omega)).trans kt6
       have ko7 := (setRow_other w6 g6 (w.heap.size + 2) #[.int .i64 a, .int .i64 b] (by omega)).trans ko6
       have hB7 : Below w.heap.size w (w6.setRow g6 #[.int .i64 a, .int .i64 b]) := below_setRow hB6 (by omega) _
       clear hk6 kt6 ko6 hB6
       generalize w6.setRow g6 #[.int .i64 a, .int .i64 b] = w7 at *
       have k0 : w7.cell? ⟨w.heap.size + 1, 0, none⟩ = some (.int .i64 c) := (blk_cell kt7 0).trans rfl
       have k1 : w7.cell? ⟨w.heap.size + 1, 1, none⟩ = some (.int .i64 d) := (blk_cell kt7 1).trans rfl)
    | (go_at_call_of 50 (Value.int .i64 c); refine (c50 _ _ _).mono ?_; rintro e w8 ⟨rfl, hb⟩
       have kr8 := blk_below kr hb
       have ko8 := blk_below ko7 hb
       have hB8 : Below w.heap.size w w8 := hB7.trans (hb.mono (by have := blk_lt ko7; omega))
       clear hb kr ko7 kt7 hB7 k0 k1)
    | (go_at_call 51; refine (H51.out _ _ kr8).mono ?_; rintro e w9 ⟨⟨q, rfl⟩, kx, hb9⟩
       have ko9 := (hb9.block _ (by omega)).trans ko8
       have hB9 : Below w.heap.size w w9 := hB8.trans (hb9.mono (by omega))
       have j0 : w9.cell? ⟨g6, 0, none⟩ = some (.int .i64 x) := (blk_cell kx 0).trans rfl
       have j1 : w9.cell? ⟨g6, 1, none⟩ = some (.int .i64 y) := (blk_cell kx 1).trans rfl
       clear kr8 ko8 hB8 hb9 kx)
    | (go_at_call 52; refine (c52 _ _ _).mono ?_; rintro e w10 ⟨rfl, hb⟩
       have ko10 := blk_below ko9 hb
       have hB10 : Below w.heap.size w w10 := hB9.trans (hb.mono (by have := blk_lt ko9; omega))
       clear hb ko9 hB9 j0 j1))
  have ko10 : w10.heap[w.heap.size + 1 + 1]? = _ := ko10
  refine start_ (n := 7) (S := S2 w (w.heap.size + 1 + 1)) (ds := [5]) #[false, false, false, false, false, false, false] (by kernel_rfl) rfl rfl (S2.drew ⟨ko10, hB10⟩) (fun hHeld => ?_)
  refine pure_ (i := 0) (N := some 26) (v := ?_) (a' := ?_) #[true, false, false, false, false, false, false] rfl rfl (by kernel_rfl) (fun _ _ _ h => h) (Or.inl ⟨by rfl, ?_⟩) ?_ ?_
  rotate_left
  · intro w'
    go_simp
    with_reducible rfl
  rotate_left
  · simp only [Act.put, List.setIfInBounds_toArray, List.set_cons_zero, List.set_cons_succ, i64_w, i32_w]
    rfl
  refine pure_ (i := 1) (N := some 27) (v := ?_) (a' := ?_) #[true, true, false, false, false, false, false] rfl rfl (by kernel_rfl) (fun _ _ _ h => h) (Or.inl ⟨by rfl, ?_⟩) ?_ ?_
  rotate_left
  · intro w'
    go_simp
    with_reducible rfl
  rotate_left
  · simp only [Act.put, List.setIfInBounds_toArray, List.set_cons_zero, List.set_cons_succ, i64_w, i32_w]
    rfl
  refine pure_ (i := 2) (N := some 28) (v := ?_) (a' := ?_) #[true, true, true, false, false, false, false] rfl rfl (by kernel_rfl) (fun _ _ _ h => h) (Or.inl ⟨by rfl, ?_⟩) ?_ ?_
  rotate_left
  · intro w'
    go_simp
    with_reducible rfl
  rotate_left
  · simp only [Act.put, List.setIfInBounds_toArray, List.set_cons_zero, List.set_cons_succ, i64_w, i32_w]
    rfl
  refine pure_ (i := 3) (N := some 29) (v := ?_) (a' := ?_) #[true, true, true, true, false, false, false] rfl rfl (by kernel_rfl) (fun _ _ _ h => h) (Or.inl ⟨by rfl, ?_⟩) ?_ ?_
  rotate_left
  · intro w'
    go_simp
    with_reducible rfl
  rotate_left
  · simp only [Act.put, List.setIfInBounds_toArray, List.set_cons_zero, List.set_cons_succ, i64_w, i32_w]
    rfl
  refine pure_ (i := 4) (N := some 30) (v := ?_) (a' := ?_) #[true, true, true, true, true, false, false] rfl rfl (by kernel_rfl) (fun _ _ _ h => h) (Or.inl ⟨by rfl, ?_⟩) ?_ ?_
  rotate_left
  · intro w'
    go_simp
    with_reducible rfl
  rotate_left
  · simp only [Act.put, List.setIfInBounds_toArray, List.set_cons_zero, List.set_cons_succ, i64_w, i32_w]
    rfl
  refine last_ (i := 5) (N := none) #[true, true, true, true, true, true, false] rfl rfl (by kernel_rfl) (by decide) (fun K hK => ?_)
  rw [if_pos (by rfl)]
  refine wp_store_row 45 (.tmp 4) (.tmp 28) rfl (w.heap.size + 1 + 1) #[.int .i64 x, .int .i64 y] rfl rfl 45 _ hHeld.bo (by kernel_rfl) rfl (by simp [Value.oneCell']) ?_
  refine hK.out _ _ ?_
  clear hK K
  refine norm_ (a' := ?_) ?_ ?_
  rotate_left
  · show Act.put _ none _ = _
    rfl
  refine pure_ (i := 6) (N := some 5) (v := ?_) (a' := ?_) #[true, true, true, true, true, true, true] rfl rfl (by kernel_rfl) (fun _ _ _ h => h) (Or.inl ⟨by rfl, ?_⟩) ?_ ?_
  rotate_left
  · intro w'
    go_simp
    with_reducible rfl
  rotate_left
  · simp only [Act.put, List.setIfInBounds_toArray, List.set_cons_zero, List.set_cons_succ, i64_w, i32_w]
    rfl
  refine done_ (by kernel_rfl) ?_
  have kq := setRow_heap w10.drew (w.heap.size + 1 + 1) _ #[.int .i64 x, .int .i64 y] _ _ hHeld.bo
  have hBq : Below w.heap.size w (w10.drew.setRow (w.heap.size + 1 + 1) #[.int .i64 x, .int .i64 y]) := below_setRow hHeld.below (by omega) _
  generalize w10.drew.setRow (w.heap.size + 1 + 1) #[.int .i64 x, .int .i64 y] = wf at *
  have q0 : wf.cell? ⟨(w.heap.size + 1 + 1), 0, none⟩ = some (.int .i64 x) := (blk_cell kq 0).trans rfl
  have q1 : wf.cell? ⟨(w.heap.size + 1 + 1), 1, none⟩ = some (.int .i64 y) := (blk_cell kq 1).trans rfl
  go_wp2_with fail
  exact bodyPost_ret (v := .tuple #[.agg #[.int .i64 x, .int .i64 y], .bool false]) (by simp [results, Try.results32, go_sem, q0, q1, hu45]) rfl ⟨rfl, hBq⟩
end Go.Proofs.Ytfnhbjpflpbebaa.Mi
