/- laws.FnSetsOverlapOne: it returns true. The walk. -/
import Derived.Test.YtmfffeoodlmnbaaSo
namespace Go.Proofs.Ytmfffeoodlmnbaa.C6
set_option linter.unusedSimpArgs false
set_option linter.unusedVariables false
open Go.RowKit Go.Proofs.YtmfffeoodlmnbaaW.PrintWords Go.Proofs.YtmfffeoodlmnbaaW.PrintLast Go.Proofs.YtmfffeoodlmnbaaW.PrintMore Go.Proofs.Ytmfffeoodlmnbaa.Kit Go.Proofs.Ytmfffeoodlmnbaa.Sp Go.Proofs.Ytmfffeoodlmnbaa.Se Go.Proofs.Ytmfffeoodlmnbaa.In Go.Proofs.Ytmfffeoodlmnbaa.Iv Go.Proofs.Ytmfffeoodlmnbaa.Vp Go.Proofs.Ytmfffeoodlmnbaa.Ov Go.Proofs.Ytmfffeoodlmnbaa.Oc Go.Proofs.Ytmfffeoodlmnbaa.Pj Go.Proofs.Ytmfffeoodlmnbaa.So
theorem setsOv_one (a b : Iv.Sp) : setsOv [a] [b] = ov a b := by
  unfold setsOv
  simp only [pairs]
  by_cases h : a.1 ≤ b.1
  · rw [if_pos h]; simp only [pairs, List.map_cons, List.map_nil, ovFold]; rw [if_neg (by decide)]; cases ov a b <;> rfl
  · rw [if_neg h]; simp only [pairs, List.map_cons, List.map_nil, ovFold]; rw [if_neg (by decide), ov_comm]; cases ov a b <;> rfl
theorem setsOv_l (a : Iv.Sp) : setsOv [a] [] = false := by unfold setsOv; simp [pairs, ovFold]
theorem setsOv_r (a : Iv.Sp) : setsOv [] [a] = false := by unfold setsOv; simp [pairs, ovFold]
theorem one_C {W : World} {g : Nat} (x : S39) {t : TypeId} (h : W.heap[g]? = some (.cells #[.int .i64 x.f0, .int .i64 x.f1] t (0, 0))) : Kd.C k39 W (some ⟨g, 0, none⟩) 1 [x] := by
  refine ⟨rfl, by omega, fun _ => ⟨_, rfl, fun j p hj => ?_⟩⟩
  match j, hj with
  | 0, hj =>
    simp at hj; subst hj
    refine ⟨_, rfl, k39_mk W x, fun i u hi => ?_⟩
    match i, hi with
    | 0, hi => simp at hi; subst hi; exact (blk_cell h 0).trans rfl
    | 1, hi => simp at hi; subst hi; exact (blk_cell h 1).trans rfl
theorem nil_C (W : World) : Kd.C k39 W none 0 [] := ⟨rfl, by omega, fun h => by omega⟩
theorem pr_one (x : S39) (h : okS x) : Pr [x] := ⟨⟨(by have := h.2.1; show (-2305843009213693953 : Int) < x.f0; omega), h.1, trivial⟩, (fun _ hy => (List.mem_singleton.1 hy) ▸ h), (by simp)⟩
theorem pr_nil : Pr [] := ⟨trivial, (fun _ hy => absurd hy List.not_mem_nil), (by simp)⟩
section
open Go
variable {P : Program} {ops : Array Oper} {Q : Exit → Act → World → Prop}
theorem val_ {oi : Oper} {N : Option Tmp} {a : Act} {w w1 : World} {v : Value} {K : Act → World → Prop} (hw : Region.wanted oi (yielded ops a.tmps) = true) (hN : oi.dst = N) (hrun : (execOp a.eval oi).run P w = .ok (.value v) w1)
    (h : K (a.put N v) w1) : if Region.wanted oi (yielded ops a.tmps) = true then Oper.wp P oi a w K Q else K (a.put N undef) w := by
  rw [if_pos hw]
  unfold Oper.wp
  rw [hrun]
  subst hN
  exact h
end
theorem size_al (w : World) (o : Obj) : (w.alloc o).heap.size = w.heap.size + 1 := Array.size_push _
structure Bx (w0 : World) (g h : Nat) (a b c d : Int) (W : World) : Prop where
  p : W.heap[g]? = some (.cells #[.int .i64 a, .int .i64 b] 39 (0, 0))
  q : W.heap[h]? = some (.cells #[.int .i64 c, .int .i64 d] 39 (0, 0))
  below : Below w0.heap.size w0 W
theorem Bx.call {w0 W W' : World} {g h : Nat} {a b c d : Int} (X : Bx w0 g h a b c d W) (hb : Below W.heap.size W W') : Bx w0 g h a b c d W' := ⟨blk_below X.p hb, blk_below X.q hb, X.below.trans (hb.mono X.below.size)⟩
theorem Bx.q0 {w0 W : World} {g h : Nat} {a b c d : Int} (X : Bx w0 g h a b c d W) : W.cell? ⟨h, 0, none⟩ = some (.int .i64 c) := (blk_cell X.q 0).trans rfl
theorem Bx.q1 {w0 W : World} {g h : Nat} {a b c d : Int} (X : Bx w0 g h a b c d W) : W.cell? ⟨h, 1, none⟩ = some (.int .i64 d) := (blk_cell X.q 1).trans rfl
theorem Bx.cells {w0 W : World} {g h : Nat} {a b c d : Int} (X : Bx w0 g h a b c d W) : W.cell? ⟨g, 0, none⟩ = some (.int .i64 a) ∧ W.cell? ⟨g, 1, none⟩ = some (.int .i64 b) ∧ W.cell? ⟨h, 0, none⟩ = some (.int .i64 c) ∧ W.cell? ⟨h, 1, none⟩ = some (.int .i64 d) :=
  ⟨(blk_cell X.p 0).trans rfl, (blk_cell X.p 1).trans rfl, (blk_cell X.q 0).trans rfl, (blk_cell X.q 1).trans rfl⟩
theorem Bx.drew {w0 W : World} {g h : Nat} {a b c d : Int} (X : Bx w0 g h a b c d W) : Bx w0 g h a b c d W.drew := X.call (below_drew1 (Below.refl _ _))
theorem Bx.alloc {w0 W : World} {g h : Nat} {a b c d : Int} (X : Bx w0 g h a b c d W) (o : Obj) : Bx w0 g h a b c d (W.alloc o) := X.call ((Below.refl _ _).alloc (Nat.le_refl _) o)
theorem Bx.start (w : World) (a b c d : Int) : Bx w w.heap.size (w.heap.size + 1) a b c d ((w.alloc (.cells #[.int .i64 a, .int .i64 b] 39)).alloc (.cells #[.int .i64 c, .int .i64 d] 39)) :=
  ⟨blk_alloc (blk_new w _) _, (by have := blk_new (w.alloc (.cells #[.int .i64 a, .int .i64 b] 39)) (.cells #[.int .i64 c, .int .i64 d] 39); rwa [size_al] at this), ((Below.refl _ _).alloc (Nat.le_refl _) _).alloc (by rw [size_al]; omega) _⟩
set_option maxHeartbeats 8000000 in
theorem c6_a (a b c d : Int) (w : World) (hs : ¬ okS ⟨a, b⟩) :
    Calls Try.prog 6 #[.agg #[.int .i64 a, .int .i64 b], .agg #[.int .i64 c, .int .i64 d]] w fun e w' => e = .returned (.bool true) ∧ Below w.heap.size w w' := by
  have hu39 := Try.underlying39
  have H14 : Hid (∀ W, Calls Try.prog 14 #[] W fun e w' => e = .returned (.bool true) ∧ Below W.heap.size W w') := Lib.hid (fun W => laws_ivWorks.calls true W ivWorks_f)
  have HS : Hid (∀ W, Calls Try.prog 23 #[.agg #[.int .i64 a, .int .i64 b]] W fun e w' => e = .returned (.bool false) ∧ Below W.heap.size W w') := Lib.hid (fun W => spec_Some.calls _ _ _ W ((some_f ⟨a, b⟩).trans (congrArg some (decide_eq_false hs))))
  clear hs
  have X0 := Bx.start w a b c d
  go_enter Try.func6, Try.ntmps6
  go_upto_region 1 with (fail)
  generalize (w.alloc _).alloc _ = W0 at *
  generalize w.heap.size + 1 = h at *
  generalize w.heap.size = g at X0 ⊢
  go_wp2_with (first
    | (refine wpList_load_mid rfl 39 (.tmp 2) rfl g 0 rfl [.int .i64 a, .int .i64 b] _ (range2 X0.p _ _ rfl rfl) hu39 rfl (by kernel_rfl) ?_)
    | (go_at_call 23; refine (HS.out _).mono ?_; rintro e W1 ⟨rfl, hb⟩; have X1 := X0.call hb; clear hb)
    | (go_at_call 14; refine (H14.out _).mono ?_; rintro e W2 ⟨rfl, hb⟩; have X2 := X1.call hb; clear hb))
  exact bodyPost_ret (v := .bool true) (by simp [results, Try.results6, go_sem]) rfl ⟨rfl, X2.below⟩
set_option maxHeartbeats 8000000 in
theorem c6_b (a b c d : Int) (w : World) (hs : okS ⟨a, b⟩) (ht : ¬ okS ⟨c, d⟩) :
    Calls Try.prog 6 #[.agg #[.int .i64 a, .int .i64 b], .agg #[.int .i64 c, .int .i64 d]] w fun e w' => e = .returned (.bool true) ∧ Below w.heap.size w w' := by
  have hu39 := Try.underlying39
  have H14 : Hid (∀ W, Calls Try.prog 14 #[] W fun e w' => e = .returned (.bool true) ∧ Below W.heap.size W w') := Lib.hid (fun W => laws_ivWorks.calls true W ivWorks_f)
  have HS : Hid (∀ W, Calls Try.prog 23 #[.agg #[.int .i64 a, .int .i64 b]] W fun e w' => e = .returned (.bool true) ∧ Below W.heap.size W w') := Lib.hid (fun W => spec_Some.calls _ _ _ W ((some_f ⟨a, b⟩).trans (congrArg some (decide_eq_true hs))))
  have HT : Hid (∀ W, Calls Try.prog 23 #[.agg #[.int .i64 c, .int .i64 d]] W fun e w' => e = .returned (.bool false) ∧ Below W.heap.size W w') := Lib.hid (fun W => spec_Some.calls _ _ _ W ((some_f ⟨c, d⟩).trans (congrArg some (decide_eq_false ht))))
  clear hs ht
  have X0 := Bx.start w a b c d
  go_enter Try.func6, Try.ntmps6
  go_upto_region 1 with (fail)
  generalize (w.alloc _).alloc _ = W0 at *
  generalize w.heap.size + 1 = h at *
  generalize w.heap.size = g at X0 ⊢
  go_wp2_with (first
    | (refine wpList_load_mid rfl 39 (.tmp 2) rfl g 0 rfl [.int .i64 a, .int .i64 b] _ (range2 X0.p _ _ rfl rfl) hu39 rfl (by kernel_rfl) ?_)
    | (go_at_call 23; refine (HS.out _).mono ?_; rintro e W1 ⟨rfl, hb⟩; have X1 := X0.call hb; clear hb HS; have q0 := X1.q0; have q1 := X1.q1)
    | (refine wpList_load_mid rfl 39 (.tmp 3) rfl h 0 rfl [.int .i64 c, .int .i64 d] _ (range2 X1.q _ _ rfl rfl) hu39 rfl (by kernel_rfl) ?_)
    | (go_at_call 23; refine (HT.out _).mono ?_; rintro e W2 ⟨rfl, hb⟩; have X2 := X1.call hb; clear hb)
    | (go_at_call 14; refine (H14.out _).mono ?_; rintro e W3 ⟨rfl, hb⟩; have X3 := X2.call hb; clear hb))
  exact bodyPost_ret (v := .bool true) (by simp [results, Try.results6, go_sem]) rfl ⟨rfl, X3.below⟩
set_option maxHeartbeats 8000000 in
theorem c6_t (a b c d : Int) (w : World) (hs : okS ⟨a, b⟩) (ht : okS ⟨c, d⟩) (hR : ov (a, b) (c, d) = true) :
    Calls Try.prog 6 #[.agg #[.int .i64 a, .int .i64 b], .agg #[.int .i64 c, .int .i64 d]] w fun e w' => e = .returned (.bool true) ∧ Below w.heap.size w w' := by
  have hu39 := Try.underlying39
  have H14 : Hid (∀ W, Calls Try.prog 14 #[] W fun e w' => e = .returned (.bool true) ∧ Below W.heap.size W w') := Lib.hid (fun W => laws_ivWorks.calls true W ivWorks_f)
  have HS : Hid (∀ W, Calls Try.prog 23 #[.agg #[.int .i64 a, .int .i64 b]] W fun e w' => e = .returned (.bool true) ∧ Below W.heap.size W w') := Lib.hid (fun W => spec_Some.calls _ _ _ W ((some_f ⟨a, b⟩).trans (congrArg some (decide_eq_true hs))))
  have HT : Hid (∀ W, Calls Try.prog 23 #[.agg #[.int .i64 c, .int .i64 d]] W fun e w' => e = .returned (.bool true) ∧ Below W.heap.size W w') := Lib.hid (fun W => spec_Some.calls _ _ _ W ((some_f ⟨c, d⟩).trans (congrArg some (decide_eq_true ht))))
  have H24 : Hid (∀ W, Calls Try.prog 24 #[.agg #[.int .i64 a, .int .i64 b], .agg #[.int .i64 c, .int .i64 d]] W fun e w' => e = .returned (.bool true) ∧ Below W.heap.size W w') := Lib.hid (fun W => impl_Overlap.calls _ _ _ _ _ W ((overlap_f ⟨a, b⟩ ⟨c, d⟩ hs ht).trans (congrArg some hR)))
  have H20a : Hid (∀ W B1 B2, Kd.C k39 W B1 1 [⟨a, b⟩] → Kd.C k39 W B2 1 [⟨c, d⟩] → Calls Try.prog 20 #[.slice B1 1 1, .slice B2 1 1] W fun e w' => e = .returned (.bool true) ∧ Below W.heap.size W w') :=
    Lib.hid (fun W B1 B2 k1 k2 => (c20 [⟨a, b⟩] [⟨c, d⟩] (pr_one _ hs) (pr_one _ ht) B1 1 B2 1 1 1 rfl rfl (by omega) (by omega) W k1 k2).mono (fun e w' q => ⟨by rw [q.1]; show Ending.returned (.bool (setsOv [(a, b)] [(c, d)])) = _; rw [setsOv_one, hR], q.2⟩))
  have H20b : Hid (∀ W B1, Kd.C k39 W B1 1 [⟨a, b⟩] → Calls Try.prog 20 #[.slice B1 1 1, .slice none 0 0] W fun e w' => e = .returned (.bool false) ∧ Below W.heap.size W w') :=
    Lib.hid (fun W B1 k1 => (c20 [⟨a, b⟩] [] (pr_one _ hs) pr_nil B1 1 none 0 1 0 rfl rfl (by omega) (by omega) W k1 (nil_C W)).mono (fun e w' q => ⟨by rw [q.1]; show Ending.returned (.bool (setsOv [(a, b)] [])) = _; rw [setsOv_l], q.2⟩))
  have H20c : Hid (∀ W B1, Kd.C k39 W B1 1 [⟨a, b⟩] → Calls Try.prog 20 #[.slice none 0 0, .slice B1 1 1] W fun e w' => e = .returned (.bool false) ∧ Below W.heap.size W w') :=
    Lib.hid (fun W B1 k1 => (c20 [] [⟨a, b⟩] pr_nil (pr_one _ hs) none 0 B1 1 0 1 rfl rfl (by omega) (by omega) W (nil_C W) k1).mono (fun e w' q => ⟨by rw [q.1]; show Ending.returned (.bool (setsOv [] [(a, b)])) = _; rw [setsOv_r], q.2⟩))
  clear hs ht hR
  have X0 := Bx.start w a b c d
  go_enter Try.func6, Try.ntmps6
  go_upto_region 1 with (fail)
  generalize (w.alloc _).alloc _ = W0 at *
  generalize w.heap.size + 1 = h at *
  generalize w.heap.size = g at X0 ⊢
  go_upto_region 3 with (first
    | (refine wpList_load_mid rfl 39 (.tmp 2) rfl g 0 rfl [.int .i64 a, .int .i64 b] _ (range2 X0.p _ _ rfl rfl) hu39 rfl (by kernel_rfl) ?_)
    | (go_at_call 23; refine (HS.out _).mono ?_; rintro e W1 ⟨rfl, hb⟩; have X1 := X0.call hb; clear hb HS X0; have q0 := X1.q0; have q1 := X1.q1)
    | (refine wpList_load_mid rfl 39 (.tmp 3) rfl h 0 rfl [.int .i64 c, .int .i64 d] _ (range2 X1.q _ _ rfl rfl) hu39 rfl (by kernel_rfl) ?_)
    | (go_at_call 23; refine (HT.out _).mono ?_; rintro e W2 ⟨rfl, hb⟩; have X2 := X1.call hb; clear hb HT X1))
  clear q0 q1
  go_upto_region 4 with (first
    | (refine wpList_load_mid rfl 39 (.tmp 2) rfl g 0 rfl [.int .i64 a, .int .i64 b] _ (range2 X2.p _ _ rfl rfl) hu39 rfl (by kernel_rfl) ?_))
  have Y0 := blk_new W2 (.cells #[.int .i64 a, .int .i64 b] 39)
  have X3 := X2.alloc (.cells #[.int .i64 a, .int .i64 b] 39)
  clear X2
  generalize W2.heap.size = o at *
  generalize W2.alloc _ = W3 at *
  refine start_ (n := 22) (S := fun w' => w'.cell? ⟨g, 0, none⟩ = some (.int .i64 a) ∧ w'.cell? ⟨g, 1, none⟩ = some (.int .i64 b) ∧ w'.cell? ⟨h, 0, none⟩ = some (.int .i64 c) ∧ w'.cell? ⟨h, 1, none⟩ = some (.int .i64 d)) (ds := []) #[false, false, false, false, false, false, false, false, false, false, false, false, false, false, false, false, false, false, false, false, false, false] (by kernel_rfl) rfl rfl ((X3.drew).cells) (fun hHeld => ?_)
  have X3' := X3.drew
  have Y0' := blk_drew Y0
  clear X3 Y0
  generalize W3.drew = Wd at *
  have X3 := X3'
  have Y0 := Y0'
  clear X3' Y0'
  refine pure_ (i := 0) (N := some 17) (v := ?_) (a' := ?_) #[true, false, false, false, false, false, false, false, false, false, false, false, false, false, false, false, false, false, false, false, false, false] rfl rfl (by kernel_rfl) (fun _ _ _ h => h) (Or.inl ⟨by rfl, ?_⟩) ?_ ?_
  rotate_left
  · intro w'
    go_simp
    first | done | with_reducible rfl | rfl
  rotate_left
  · simp only [Act.put, List.setIfInBounds_toArray, List.set_cons_zero, List.set_cons_succ, i64_w, i32_w]
    rfl
  refine take_ (i := 1) (N := some 18) (v := ?_) (a' := ?_) #[true, true, false, false, false, false, false, false, false, false, false, false, false, false, false, false, false, false, false, false, false, false] rfl rfl (by kernel_rfl) (fun _ _ _ h => h) (Or.inl ⟨by rfl, ?_⟩) hHeld ?_ ?_
  rotate_left
  · rintro w' ⟨s0, s1, s2, s3⟩
    go_simp
    with_reducible rfl
  rotate_left
  · simp only [Act.put, List.setIfInBounds_toArray, List.set_cons_zero, List.set_cons_succ, i64_w, i32_w]
    rfl
  refine take_ (i := 4) (N := some 21) (v := ?_) (a' := ?_) #[true, true, false, false, true, false, false, false, false, false, false, false, false, false, false, false, false, false, false, false, false, false] rfl rfl (by kernel_rfl) (fun _ _ _ h => h) (Or.inl ⟨by rfl, ?_⟩) hHeld ?_ ?_
  rotate_left
  · rintro w' ⟨s0, s1, s2, s3⟩
    go_simp
    with_reducible rfl
  rotate_left
  · simp only [Act.put, List.setIfInBounds_toArray, List.set_cons_zero, List.set_cons_succ, i64_w, i32_w]
    rfl
  refine take_ (i := 5) (N := some 22) (v := ?_) (a' := ?_) #[true, true, false, false, true, true, false, false, false, false, false, false, false, false, false, false, false, false, false, false, false, false] rfl rfl (by kernel_rfl) (fun _ _ _ h => h) (Or.inl ⟨by rfl, ?_⟩) hHeld ?_ ?_
  rotate_left
  · rintro w' ⟨s0, s1, s2, s3⟩
    go_simp
    with_reducible rfl
  rotate_left
  · simp only [Act.put, List.setIfInBounds_toArray, List.set_cons_zero, List.set_cons_succ, i64_w, i32_w]
    rfl
  refine one_ (i := 2) (N := some 19) #[true, true, true, false, true, true, false, false, false, false, false, false, false, false, false, false, false, false, false, false, false, false] rfl rfl (by kernel_rfl) (by decide) (fun K hK => ?_)
  refine val_ (v := .slice (some ⟨Wd.heap.size, 0, none⟩) 1 1) (w1 := Wd.alloc (.cells #[.int .i64 c, .int .i64 d] 39)) (by rfl) rfl (by go_simp; first | done | rfl) ?_
  have Z := blk_new Wd (.cells #[.int .i64 c, .int .i64 d] 39)
  have X4 := X3.alloc (.cells #[.int .i64 c, .int .i64 d] 39)
  have Y4 := blk_alloc Y0 (.cells #[.int .i64 c, .int .i64 d] 39)
  clear X3 Y0 hHeld
  generalize Wd.alloc _ = W4 at *
  generalize Wd.heap.size = o2 at *
  refine hK.out _ _ (X4.cells) (fun hHeld => ?_)
  clear hK K
  refine norm_ (a' := ?_) ?_ ?_
  rotate_left
  · show Act.put _ (some 19) _ = _
    simp only [Act.put, List.setIfInBounds_toArray, List.set_cons_zero, List.set_cons_succ, i64_w, i32_w]
    rfl
  refine one_ (i := 3) (N := some 20) #[true, true, true, true, true, true, false, false, false, false, false, false, false, false, false, false, false, false, false, false, false, false] rfl rfl (by kernel_rfl) (by decide) (fun K hK => ?_)
  refine goes_ Try.func20 (by kernel_rfl) rfl #[.slice (some ⟨o, 0, none⟩) 1 1, .slice (some ⟨o2, 0, none⟩) 1 1] (by rfl) rfl rfl (by (try simp only [List.map_toArray, List.map_cons, List.map_nil]); first | done | rfl) ?_
  refine (H20a.out _ (some ⟨o, 0, none⟩) (some ⟨o2, 0, none⟩) (one_C ⟨a, b⟩ Y4) (one_C ⟨c, d⟩ Z)).mono ?_
  rintro e W5 ⟨rfl, hb⟩
  have X5 := X4.call hb
  have Y5 := blk_below Y4 hb
  clear hb X4 Y4 Z hHeld H20a
  refine ⟨_, rfl, ?_⟩
  refine hK.out _ _ (X5.cells) (fun hHeld => ?_)
  clear hK K
  refine norm_ (a' := ?_) ?_ ?_
  rotate_left
  · show Act.put _ (some 20) _ = _
    simp only [Act.put, List.setIfInBounds_toArray, List.set_cons_zero, List.set_cons_succ, i64_w, i32_w]
    rfl
  refine one_ (i := 6) (N := some 23) #[true, true, true, true, true, true, true, false, false, false, false, false, false, false, false, false, false, false, false, false, false, false] rfl rfl (by kernel_rfl) (by decide) (fun K hK => ?_)
  refine goes_ Try.func24 (by kernel_rfl) rfl #[.agg #[.int .i64 a, .int .i64 b], .agg #[.int .i64 c, .int .i64 d]] (by rfl) rfl rfl (by (try simp only [List.map_toArray, List.map_cons, List.map_nil]); first | done | rfl) ?_
  refine (H24.out _).mono ?_
  rintro e W6 ⟨rfl, hb⟩
  have X6 := X5.call hb
  have Y6 := blk_below Y5 hb
  clear hb X5 Y5 hHeld
  refine ⟨_, rfl, ?_⟩
  refine hK.out _ _ (X6.cells) (fun hHeld => ?_)
  clear hK K
  refine norm_ (a' := ?_) ?_ ?_
  rotate_left
  · show Act.put _ (some 23) _ = _
    simp only [Act.put, List.setIfInBounds_toArray, List.set_cons_zero, List.set_cons_succ, i64_w, i32_w]
    rfl
  refine pure_ (i := 7) (N := some 24) (v := ?_) (a' := ?_) #[true, true, true, true, true, true, true, true, false, false, false, false, false, false, false, false, false, false, false, false, false, false] rfl rfl (by kernel_rfl) (fun _ _ _ h => h) (Or.inl ⟨by rfl, ?_⟩) ?_ ?_
  rotate_left
  · intro w'
    go_simp
    first | done | with_reducible rfl | rfl
  rotate_left
  · simp only [Act.put, List.setIfInBounds_toArray, List.set_cons_zero, List.set_cons_succ, i64_w, i32_w]
    rfl
  refine pure_ (i := 8) (N := some 25) (v := ?_) (a' := ?_) #[true, true, true, true, true, true, true, true, true, false, false, false, false, false, false, false, false, false, false, false, false, false] rfl rfl (by kernel_rfl) (fun _ _ _ h => h) (Or.inl ⟨by rfl, ?_⟩) ?_ ?_
  rotate_left
  · intro w'
    go_simp
    first | done | with_reducible rfl | rfl
  rotate_left
  · simp only [Act.put, List.setIfInBounds_toArray, List.set_cons_zero, List.set_cons_succ, i64_w, i32_w]
    rfl
  refine pure_ (i := 9) (N := some 26) (v := ?_) (a' := ?_) #[true, true, true, true, true, true, true, true, true, true, false, false, false, false, false, false, false, false, false, false, false, false] rfl rfl (by kernel_rfl) (fun _ _ _ h => h) (Or.inl ⟨by rfl, ?_⟩) ?_ ?_
  rotate_left
  · intro w'
    go_simp
    first | done | with_reducible rfl | rfl
  rotate_left
  · simp only [Act.put, List.setIfInBounds_toArray, List.set_cons_zero, List.set_cons_succ, i64_w, i32_w]
    rfl
  refine one_ (i := 10) (N := some 27) #[true, true, true, true, true, true, true, true, true, true, true, false, false, false, false, false, false, false, false, false, false, false] rfl rfl (by kernel_rfl) (by decide) (fun K hK => ?_)
  refine goes_ Try.func20 (by kernel_rfl) rfl #[.slice (some ⟨o, 0, none⟩) 1 1, .slice none 0 0] (by rfl) rfl rfl (by (try simp only [List.map_toArray, List.map_cons, List.map_nil]); first | done | rfl) ?_
  refine (H20b.out _ _ (one_C ⟨a, b⟩ Y6)).mono ?_
  rintro e W7 ⟨rfl, hb⟩
  have X7 := X6.call hb
  have Y7 := blk_below Y6 hb
  clear hb X6 Y6 hHeld H20b
  refine ⟨_, rfl, ?_⟩
  refine hK.out _ _ (X7.cells) (fun hHeld => ?_)
  clear hK K
  refine norm_ (a' := ?_) ?_ ?_
  rotate_left
  · show Act.put _ (some 27) _ = _
    simp only [Act.put, List.setIfInBounds_toArray, List.set_cons_zero, List.set_cons_succ, i64_w, i32_w]
    rfl
  refine pure_ (i := 11) (N := some 28) (v := ?_) (a' := ?_) #[true, true, true, true, true, true, true, true, true, true, true, true, false, false, false, false, false, false, false, false, false, false] rfl rfl (by kernel_rfl) (fun _ _ _ h => h) (Or.inl ⟨by rfl, ?_⟩) ?_ ?_
  rotate_left
  · intro w'
    go_simp
    first | done | with_reducible rfl | rfl
  rotate_left
  · simp only [Act.put, List.setIfInBounds_toArray, List.set_cons_zero, List.set_cons_succ, i64_w, i32_w]
    rfl
  refine pure_ (i := 12) (N := some 29) (v := ?_) (a' := ?_) #[true, true, true, true, true, true, true, true, true, true, true, true, true, false, false, false, false, false, false, false, false, false] rfl rfl (by kernel_rfl) (fun _ _ _ h => h) (Or.inl ⟨by rfl, ?_⟩) ?_ ?_
  rotate_left
  · intro w'
    go_simp
    first | done | with_reducible rfl | rfl
  rotate_left
  · simp only [Act.put, List.setIfInBounds_toArray, List.set_cons_zero, List.set_cons_succ, i64_w, i32_w]
    rfl
  refine pure_ (i := 13) (N := some 30) (v := ?_) (a' := ?_) #[true, true, true, true, true, true, true, true, true, true, true, true, true, true, false, false, false, false, false, false, false, false] rfl rfl (by kernel_rfl) (fun _ _ _ h => h) (Or.inl ⟨by rfl, ?_⟩) ?_ ?_
  rotate_left
  · intro w'
    go_simp
    first | done | with_reducible rfl | rfl
  rotate_left
  · simp only [Act.put, List.setIfInBounds_toArray, List.set_cons_zero, List.set_cons_succ, i64_w, i32_w]
    rfl
  refine pure_ (i := 14) (N := some 31) (v := ?_) (a' := ?_) #[true, true, true, true, true, true, true, true, true, true, true, true, true, true, true, false, false, false, false, false, false, false] rfl rfl (by kernel_rfl) (fun _ _ _ h => h) (Or.inl ⟨by rfl, ?_⟩) ?_ ?_
  rotate_left
  · intro w'
    go_simp
    first | done | with_reducible rfl | rfl
  rotate_left
  · simp only [Act.put, List.setIfInBounds_toArray, List.set_cons_zero, List.set_cons_succ, i64_w, i32_w]
    rfl
  refine one_ (i := 15) (N := some 32) #[true, true, true, true, true, true, true, true, true, true, true, true, true, true, true, true, false, false, false, false, false, false] rfl rfl (by kernel_rfl) (by decide) (fun K hK => ?_)
  refine goes_ Try.func20 (by kernel_rfl) rfl #[.slice none 0 0, .slice (some ⟨o, 0, none⟩) 1 1] (by rfl) rfl rfl (by (try simp only [List.map_toArray, List.map_cons, List.map_nil]); first | done | rfl) ?_
  refine (H20c.out _ _ (one_C ⟨a, b⟩ Y7)).mono ?_
  rintro e W8 ⟨rfl, hb⟩
  have X8 := X7.call hb
  have Y8 := blk_below Y7 hb
  clear hb X7 Y7 hHeld H20c
  refine ⟨_, rfl, ?_⟩
  refine hK.out _ _ (X8.cells) (fun hHeld => ?_)
  clear hK K
  refine norm_ (a' := ?_) ?_ ?_
  rotate_left
  · show Act.put _ (some 32) _ = _
    simp only [Act.put, List.setIfInBounds_toArray, List.set_cons_zero, List.set_cons_succ, i64_w, i32_w]
    rfl
  refine pure_ (i := 16) (N := some 33) (v := ?_) (a' := ?_) #[true, true, true, true, true, true, true, true, true, true, true, true, true, true, true, true, true, false, false, false, false, false] rfl rfl (by kernel_rfl) (fun _ _ _ h => h) (Or.inl ⟨by rfl, ?_⟩) ?_ ?_
  rotate_left
  · intro w'
    go_simp
    first | done | with_reducible rfl | rfl
  rotate_left
  · simp only [Act.put, List.setIfInBounds_toArray, List.set_cons_zero, List.set_cons_succ, i64_w, i32_w]
    rfl
  refine pure_ (i := 17) (N := some 34) (v := ?_) (a' := ?_) #[true, true, true, true, true, true, true, true, true, true, true, true, true, true, true, true, true, true, false, false, false, false] rfl rfl (by kernel_rfl) (fun _ _ _ h => h) (Or.inl ⟨by rfl, ?_⟩) ?_ ?_
  rotate_left
  · intro w'
    go_simp
    first | done | with_reducible rfl | rfl
  rotate_left
  · simp only [Act.put, List.setIfInBounds_toArray, List.set_cons_zero, List.set_cons_succ, i64_w, i32_w]
    rfl
  refine pure_ (i := 18) (N := some 35) (v := ?_) (a' := ?_) #[true, true, true, true, true, true, true, true, true, true, true, true, true, true, true, true, true, true, true, false, false, false] rfl rfl (by kernel_rfl) (fun _ _ _ h => h) (Or.inl ⟨by rfl, ?_⟩) ?_ ?_
  rotate_left
  · intro w'
    go_simp
    first | done | with_reducible rfl | rfl
  rotate_left
  · simp only [Act.put, List.setIfInBounds_toArray, List.set_cons_zero, List.set_cons_succ, i64_w, i32_w]
    rfl
  refine one_ (i := 19) (N := some 36) #[true, true, true, true, true, true, true, true, true, true, true, true, true, true, true, true, true, true, true, true, false, false] rfl rfl (by kernel_rfl) (by decide) (fun K hK => ?_)
  refine goes_ Try.func14 (by kernel_rfl) rfl #[] (by rfl) rfl rfl (by (try simp only [List.map_toArray, List.map_cons, List.map_nil]); first | done | rfl) ?_
  refine (H14.out _).mono ?_
  rintro e W9 ⟨rfl, hb⟩
  have X9 := X8.call hb
  have Y9 := blk_below Y8 hb
  clear hb X8 Y8 hHeld H14
  refine ⟨_, rfl, ?_⟩
  refine hK.out _ _ (X9.cells) (fun hHeld => ?_)
  clear hK K
  refine norm_ (a' := ?_) ?_ ?_
  rotate_left
  · show Act.put _ (some 36) _ = _
    simp only [Act.put, List.setIfInBounds_toArray, List.set_cons_zero, List.set_cons_succ, i64_w, i32_w]
    rfl
  refine pure_ (i := 20) (N := some 37) (v := ?_) (a' := ?_) #[true, true, true, true, true, true, true, true, true, true, true, true, true, true, true, true, true, true, true, true, true, false] rfl rfl (by kernel_rfl) (fun _ _ _ h => h) (Or.inl ⟨by rfl, ?_⟩) ?_ ?_
  rotate_left
  · intro w'
    go_simp
    first | done | with_reducible rfl | rfl
  rotate_left
  · simp only [Act.put, List.setIfInBounds_toArray, List.set_cons_zero, List.set_cons_succ, i64_w, i32_w]
    rfl
  refine pure_ (i := 21) (N := some 4) (v := ?_) (a' := ?_) #[true, true, true, true, true, true, true, true, true, true, true, true, true, true, true, true, true, true, true, true, true, true] rfl rfl (by kernel_rfl) (fun _ _ _ h => h) (Or.inl ⟨by rfl, ?_⟩) ?_ ?_
  rotate_left
  · intro w'
    go_simp
    first | done | with_reducible rfl | rfl
  rotate_left
  · simp only [Act.put, List.setIfInBounds_toArray, List.set_cons_zero, List.set_cons_succ, i64_w, i32_w]
    rfl
  refine done_ (by kernel_rfl) ?_
  go_wp2
  exact bodyPost_ret (v := .bool true) (by simp [results, Try.results6, go_sem]) rfl ⟨rfl, X9.below⟩
set_option maxHeartbeats 8000000 in
theorem c6_f (a b c d : Int) (w : World) (hs : okS ⟨a, b⟩) (ht : okS ⟨c, d⟩) (hR : ov (a, b) (c, d) = false) :
    Calls Try.prog 6 #[.agg #[.int .i64 a, .int .i64 b], .agg #[.int .i64 c, .int .i64 d]] w fun e w' => e = .returned (.bool true) ∧ Below w.heap.size w w' := by
  have hu39 := Try.underlying39
  have H14 : Hid (∀ W, Calls Try.prog 14 #[] W fun e w' => e = .returned (.bool true) ∧ Below W.heap.size W w') := Lib.hid (fun W => laws_ivWorks.calls true W ivWorks_f)
  have HS : Hid (∀ W, Calls Try.prog 23 #[.agg #[.int .i64 a, .int .i64 b]] W fun e w' => e = .returned (.bool true) ∧ Below W.heap.size W w') := Lib.hid (fun W => spec_Some.calls _ _ _ W ((some_f ⟨a, b⟩).trans (congrArg some (decide_eq_true hs))))
  have HT : Hid (∀ W, Calls Try.prog 23 #[.agg #[.int .i64 c, .int .i64 d]] W fun e w' => e = .returned (.bool true) ∧ Below W.heap.size W w') := Lib.hid (fun W => spec_Some.calls _ _ _ W ((some_f ⟨c, d⟩).trans (congrArg some (decide_eq_true ht))))
  have H24 : Hid (∀ W, Calls Try.prog 24 #[.agg #[.int .i64 a, .int .i64 b], .agg #[.int .i64 c, .int .i64 d]] W fun e w' => e = .returned (.bool false) ∧ Below W.heap.size W w') := Lib.hid (fun W => impl_Overlap.calls _ _ _ _ _ W ((overlap_f ⟨a, b⟩ ⟨c, d⟩ hs ht).trans (congrArg some hR)))
  have H20a : Hid (∀ W B1 B2, Kd.C k39 W B1 1 [⟨a, b⟩] → Kd.C k39 W B2 1 [⟨c, d⟩] → Calls Try.prog 20 #[.slice B1 1 1, .slice B2 1 1] W fun e w' => e = .returned (.bool false) ∧ Below W.heap.size W w') :=
    Lib.hid (fun W B1 B2 k1 k2 => (c20 [⟨a, b⟩] [⟨c, d⟩] (pr_one _ hs) (pr_one _ ht) B1 1 B2 1 1 1 rfl rfl (by omega) (by omega) W k1 k2).mono (fun e w' q => ⟨by rw [q.1]; show Ending.returned (.bool (setsOv [(a, b)] [(c, d)])) = _; rw [setsOv_one, hR], q.2⟩))
  have H20b : Hid (∀ W B1, Kd.C k39 W B1 1 [⟨a, b⟩] → Calls Try.prog 20 #[.slice B1 1 1, .slice none 0 0] W fun e w' => e = .returned (.bool false) ∧ Below W.heap.size W w') :=
    Lib.hid (fun W B1 k1 => (c20 [⟨a, b⟩] [] (pr_one _ hs) pr_nil B1 1 none 0 1 0 rfl rfl (by omega) (by omega) W k1 (nil_C W)).mono (fun e w' q => ⟨by rw [q.1]; show Ending.returned (.bool (setsOv [(a, b)] [])) = _; rw [setsOv_l], q.2⟩))
  have H20c : Hid (∀ W B1, Kd.C k39 W B1 1 [⟨a, b⟩] → Calls Try.prog 20 #[.slice none 0 0, .slice B1 1 1] W fun e w' => e = .returned (.bool false) ∧ Below W.heap.size W w') :=
    Lib.hid (fun W B1 k1 => (c20 [] [⟨a, b⟩] pr_nil (pr_one _ hs) none 0 B1 1 0 1 rfl rfl (by omega) (by omega) W (nil_C W) k1).mono (fun e w' q => ⟨by rw [q.1]; show Ending.returned (.bool (setsOv [] [(a, b)])) = _; rw [setsOv_r], q.2⟩))
  clear hs ht hR
  have X0 := Bx.start w a b c d
  go_enter Try.func6, Try.ntmps6
  go_upto_region 1 with (fail)
  generalize (w.alloc _).alloc _ = W0 at *
  generalize w.heap.size + 1 = h at *
  generalize w.heap.size = g at X0 ⊢
  go_upto_region 3 with (first
    | (refine wpList_load_mid rfl 39 (.tmp 2) rfl g 0 rfl [.int .i64 a, .int .i64 b] _ (range2 X0.p _ _ rfl rfl) hu39 rfl (by kernel_rfl) ?_)
    | (go_at_call 23; refine (HS.out _).mono ?_; rintro e W1 ⟨rfl, hb⟩; have X1 := X0.call hb; clear hb HS X0; have q0 := X1.q0; have q1 := X1.q1)
    | (refine wpList_load_mid rfl 39 (.tmp 3) rfl h 0 rfl [.int .i64 c, .int .i64 d] _ (range2 X1.q _ _ rfl rfl) hu39 rfl (by kernel_rfl) ?_)
    | (go_at_call 23; refine (HT.out _).mono ?_; rintro e W2 ⟨rfl, hb⟩; have X2 := X1.call hb; clear hb HT X1))
  clear q0 q1
  go_upto_region 4 with (first
    | (refine wpList_load_mid rfl 39 (.tmp 2) rfl g 0 rfl [.int .i64 a, .int .i64 b] _ (range2 X2.p _ _ rfl rfl) hu39 rfl (by kernel_rfl) ?_))
  have Y0 := blk_new W2 (.cells #[.int .i64 a, .int .i64 b] 39)
  have X3 := X2.alloc (.cells #[.int .i64 a, .int .i64 b] 39)
  clear X2
  generalize W2.heap.size = o at *
  generalize W2.alloc _ = W3 at *
  refine start_ (n := 22) (S := fun w' => w'.cell? ⟨g, 0, none⟩ = some (.int .i64 a) ∧ w'.cell? ⟨g, 1, none⟩ = some (.int .i64 b) ∧ w'.cell? ⟨h, 0, none⟩ = some (.int .i64 c) ∧ w'.cell? ⟨h, 1, none⟩ = some (.int .i64 d)) (ds := []) #[false, false, false, false, false, false, false, false, false, false, false, false, false, false, false, false, false, false, false, false, false, false] (by kernel_rfl) rfl rfl ((X3.drew).cells) (fun hHeld => ?_)
  have X3' := X3.drew
  have Y0' := blk_drew Y0
  clear X3 Y0
  generalize W3.drew = Wd at *
  have X3 := X3'
  have Y0 := Y0'
  clear X3' Y0'
  refine pure_ (i := 0) (N := some 17) (v := ?_) (a' := ?_) #[true, false, false, false, false, false, false, false, false, false, false, false, false, false, false, false, false, false, false, false, false, false] rfl rfl (by kernel_rfl) (fun _ _ _ h => h) (Or.inl ⟨by rfl, ?_⟩) ?_ ?_
  rotate_left
  · intro w'
    go_simp
    first | done | with_reducible rfl | rfl
  rotate_left
  · simp only [Act.put, List.setIfInBounds_toArray, List.set_cons_zero, List.set_cons_succ, i64_w, i32_w]
    rfl
  refine take_ (i := 1) (N := some 18) (v := ?_) (a' := ?_) #[true, true, false, false, false, false, false, false, false, false, false, false, false, false, false, false, false, false, false, false, false, false] rfl rfl (by kernel_rfl) (fun _ _ _ h => h) (Or.inl ⟨by rfl, ?_⟩) hHeld ?_ ?_
  rotate_left
  · rintro w' ⟨s0, s1, s2, s3⟩
    go_simp
    with_reducible rfl
  rotate_left
  · simp only [Act.put, List.setIfInBounds_toArray, List.set_cons_zero, List.set_cons_succ, i64_w, i32_w]
    rfl
  refine take_ (i := 4) (N := some 21) (v := ?_) (a' := ?_) #[true, true, false, false, true, false, false, false, false, false, false, false, false, false, false, false, false, false, false, false, false, false] rfl rfl (by kernel_rfl) (fun _ _ _ h => h) (Or.inl ⟨by rfl, ?_⟩) hHeld ?_ ?_
  rotate_left
  · rintro w' ⟨s0, s1, s2, s3⟩
    go_simp
    with_reducible rfl
  rotate_left
  · simp only [Act.put, List.setIfInBounds_toArray, List.set_cons_zero, List.set_cons_succ, i64_w, i32_w]
    rfl
  refine take_ (i := 5) (N := some 22) (v := ?_) (a' := ?_) #[true, true, false, false, true, true, false, false, false, false, false, false, false, false, false, false, false, false, false, false, false, false] rfl rfl (by kernel_rfl) (fun _ _ _ h => h) (Or.inl ⟨by rfl, ?_⟩) hHeld ?_ ?_
  rotate_left
  · rintro w' ⟨s0, s1, s2, s3⟩
    go_simp
    with_reducible rfl
  rotate_left
  · simp only [Act.put, List.setIfInBounds_toArray, List.set_cons_zero, List.set_cons_succ, i64_w, i32_w]
    rfl
  refine one_ (i := 2) (N := some 19) #[true, true, true, false, true, true, false, false, false, false, false, false, false, false, false, false, false, false, false, false, false, false] rfl rfl (by kernel_rfl) (by decide) (fun K hK => ?_)
  refine val_ (v := .slice (some ⟨Wd.heap.size, 0, none⟩) 1 1) (w1 := Wd.alloc (.cells #[.int .i64 c, .int .i64 d] 39)) (by rfl) rfl (by go_simp; first | done | rfl) ?_
  have Z := blk_new Wd (.cells #[.int .i64 c, .int .i64 d] 39)
  have X4 := X3.alloc (.cells #[.int .i64 c, .int .i64 d] 39)
  have Y4 := blk_alloc Y0 (.cells #[.int .i64 c, .int .i64 d] 39)
  clear X3 Y0 hHeld
  generalize Wd.alloc _ = W4 at *
  generalize Wd.heap.size = o2 at *
  refine hK.out _ _ (X4.cells) (fun hHeld => ?_)
  clear hK K
  refine norm_ (a' := ?_) ?_ ?_
  rotate_left
  · show Act.put _ (some 19) _ = _
    simp only [Act.put, List.setIfInBounds_toArray, List.set_cons_zero, List.set_cons_succ, i64_w, i32_w]
    rfl
  refine one_ (i := 3) (N := some 20) #[true, true, true, true, true, true, false, false, false, false, false, false, false, false, false, false, false, false, false, false, false, false] rfl rfl (by kernel_rfl) (by decide) (fun K hK => ?_)
  refine goes_ Try.func20 (by kernel_rfl) rfl #[.slice (some ⟨o, 0, none⟩) 1 1, .slice (some ⟨o2, 0, none⟩) 1 1] (by rfl) rfl rfl (by (try simp only [List.map_toArray, List.map_cons, List.map_nil]); first | done | rfl) ?_
  refine (H20a.out _ (some ⟨o, 0, none⟩) (some ⟨o2, 0, none⟩) (one_C ⟨a, b⟩ Y4) (one_C ⟨c, d⟩ Z)).mono ?_
  rintro e W5 ⟨rfl, hb⟩
  have X5 := X4.call hb
  have Y5 := blk_below Y4 hb
  clear hb X4 Y4 Z hHeld H20a
  refine ⟨_, rfl, ?_⟩
  refine hK.out _ _ (X5.cells) (fun hHeld => ?_)
  clear hK K
  refine norm_ (a' := ?_) ?_ ?_
  rotate_left
  · show Act.put _ (some 20) _ = _
    simp only [Act.put, List.setIfInBounds_toArray, List.set_cons_zero, List.set_cons_succ, i64_w, i32_w]
    rfl
  refine one_ (i := 6) (N := some 23) #[true, true, true, true, true, true, true, false, false, false, false, false, false, false, false, false, false, false, false, false, false, false] rfl rfl (by kernel_rfl) (by decide) (fun K hK => ?_)
  refine goes_ Try.func24 (by kernel_rfl) rfl #[.agg #[.int .i64 a, .int .i64 b], .agg #[.int .i64 c, .int .i64 d]] (by rfl) rfl rfl (by (try simp only [List.map_toArray, List.map_cons, List.map_nil]); first | done | rfl) ?_
  refine (H24.out _).mono ?_
  rintro e W6 ⟨rfl, hb⟩
  have X6 := X5.call hb
  have Y6 := blk_below Y5 hb
  clear hb X5 Y5 hHeld
  refine ⟨_, rfl, ?_⟩
  refine hK.out _ _ (X6.cells) (fun hHeld => ?_)
  clear hK K
  refine norm_ (a' := ?_) ?_ ?_
  rotate_left
  · show Act.put _ (some 23) _ = _
    simp only [Act.put, List.setIfInBounds_toArray, List.set_cons_zero, List.set_cons_succ, i64_w, i32_w]
    rfl
  refine pure_ (i := 7) (N := some 24) (v := ?_) (a' := ?_) #[true, true, true, true, true, true, true, true, false, false, false, false, false, false, false, false, false, false, false, false, false, false] rfl rfl (by kernel_rfl) (fun _ _ _ h => h) (Or.inl ⟨by rfl, ?_⟩) ?_ ?_
  rotate_left
  · intro w'
    go_simp
    first | done | with_reducible rfl | rfl
  rotate_left
  · simp only [Act.put, List.setIfInBounds_toArray, List.set_cons_zero, List.set_cons_succ, i64_w, i32_w]
    rfl
  refine pure_ (i := 8) (N := some 25) (v := ?_) (a' := ?_) #[true, true, true, true, true, true, true, true, true, false, false, false, false, false, false, false, false, false, false, false, false, false] rfl rfl (by kernel_rfl) (fun _ _ _ h => h) (Or.inl ⟨by rfl, ?_⟩) ?_ ?_
  rotate_left
  · intro w'
    go_simp
    first | done | with_reducible rfl | rfl
  rotate_left
  · simp only [Act.put, List.setIfInBounds_toArray, List.set_cons_zero, List.set_cons_succ, i64_w, i32_w]
    rfl
  refine pure_ (i := 9) (N := some 26) (v := ?_) (a' := ?_) #[true, true, true, true, true, true, true, true, true, true, false, false, false, false, false, false, false, false, false, false, false, false] rfl rfl (by kernel_rfl) (fun _ _ _ h => h) (Or.inl ⟨by rfl, ?_⟩) ?_ ?_
  rotate_left
  · intro w'
    go_simp
    first | done | with_reducible rfl | rfl
  rotate_left
  · simp only [Act.put, List.setIfInBounds_toArray, List.set_cons_zero, List.set_cons_succ, i64_w, i32_w]
    rfl
  refine one_ (i := 10) (N := some 27) #[true, true, true, true, true, true, true, true, true, true, true, false, false, false, false, false, false, false, false, false, false, false] rfl rfl (by kernel_rfl) (by decide) (fun K hK => ?_)
  refine goes_ Try.func20 (by kernel_rfl) rfl #[.slice (some ⟨o, 0, none⟩) 1 1, .slice none 0 0] (by rfl) rfl rfl (by (try simp only [List.map_toArray, List.map_cons, List.map_nil]); first | done | rfl) ?_
  refine (H20b.out _ _ (one_C ⟨a, b⟩ Y6)).mono ?_
  rintro e W7 ⟨rfl, hb⟩
  have X7 := X6.call hb
  have Y7 := blk_below Y6 hb
  clear hb X6 Y6 hHeld H20b
  refine ⟨_, rfl, ?_⟩
  refine hK.out _ _ (X7.cells) (fun hHeld => ?_)
  clear hK K
  refine norm_ (a' := ?_) ?_ ?_
  rotate_left
  · show Act.put _ (some 27) _ = _
    simp only [Act.put, List.setIfInBounds_toArray, List.set_cons_zero, List.set_cons_succ, i64_w, i32_w]
    rfl
  refine pure_ (i := 11) (N := some 28) (v := ?_) (a' := ?_) #[true, true, true, true, true, true, true, true, true, true, true, true, false, false, false, false, false, false, false, false, false, false] rfl rfl (by kernel_rfl) (fun _ _ _ h => h) (Or.inl ⟨by rfl, ?_⟩) ?_ ?_
  rotate_left
  · intro w'
    go_simp
    first | done | with_reducible rfl | rfl
  rotate_left
  · simp only [Act.put, List.setIfInBounds_toArray, List.set_cons_zero, List.set_cons_succ, i64_w, i32_w]
    rfl
  refine pure_ (i := 12) (N := some 29) (v := ?_) (a' := ?_) #[true, true, true, true, true, true, true, true, true, true, true, true, true, false, false, false, false, false, false, false, false, false] rfl rfl (by kernel_rfl) (fun _ _ _ h => h) (Or.inl ⟨by rfl, ?_⟩) ?_ ?_
  rotate_left
  · intro w'
    go_simp
    first | done | with_reducible rfl | rfl
  rotate_left
  · simp only [Act.put, List.setIfInBounds_toArray, List.set_cons_zero, List.set_cons_succ, i64_w, i32_w]
    rfl
  refine pure_ (i := 13) (N := some 30) (v := ?_) (a' := ?_) #[true, true, true, true, true, true, true, true, true, true, true, true, true, true, false, false, false, false, false, false, false, false] rfl rfl (by kernel_rfl) (fun _ _ _ h => h) (Or.inl ⟨by rfl, ?_⟩) ?_ ?_
  rotate_left
  · intro w'
    go_simp
    first | done | with_reducible rfl | rfl
  rotate_left
  · simp only [Act.put, List.setIfInBounds_toArray, List.set_cons_zero, List.set_cons_succ, i64_w, i32_w]
    rfl
  refine pure_ (i := 14) (N := some 31) (v := ?_) (a' := ?_) #[true, true, true, true, true, true, true, true, true, true, true, true, true, true, true, false, false, false, false, false, false, false] rfl rfl (by kernel_rfl) (fun _ _ _ h => h) (Or.inl ⟨by rfl, ?_⟩) ?_ ?_
  rotate_left
  · intro w'
    go_simp
    first | done | with_reducible rfl | rfl
  rotate_left
  · simp only [Act.put, List.setIfInBounds_toArray, List.set_cons_zero, List.set_cons_succ, i64_w, i32_w]
    rfl
  refine one_ (i := 15) (N := some 32) #[true, true, true, true, true, true, true, true, true, true, true, true, true, true, true, true, false, false, false, false, false, false] rfl rfl (by kernel_rfl) (by decide) (fun K hK => ?_)
  refine goes_ Try.func20 (by kernel_rfl) rfl #[.slice none 0 0, .slice (some ⟨o, 0, none⟩) 1 1] (by rfl) rfl rfl (by (try simp only [List.map_toArray, List.map_cons, List.map_nil]); first | done | rfl) ?_
  refine (H20c.out _ _ (one_C ⟨a, b⟩ Y7)).mono ?_
  rintro e W8 ⟨rfl, hb⟩
  have X8 := X7.call hb
  have Y8 := blk_below Y7 hb
  clear hb X7 Y7 hHeld H20c
  refine ⟨_, rfl, ?_⟩
  refine hK.out _ _ (X8.cells) (fun hHeld => ?_)
  clear hK K
  refine norm_ (a' := ?_) ?_ ?_
  rotate_left
  · show Act.put _ (some 32) _ = _
    simp only [Act.put, List.setIfInBounds_toArray, List.set_cons_zero, List.set_cons_succ, i64_w, i32_w]
    rfl
  refine pure_ (i := 16) (N := some 33) (v := ?_) (a' := ?_) #[true, true, true, true, true, true, true, true, true, true, true, true, true, true, true, true, true, false, false, false, false, false] rfl rfl (by kernel_rfl) (fun _ _ _ h => h) (Or.inl ⟨by rfl, ?_⟩) ?_ ?_
  rotate_left
  · intro w'
    go_simp
    first | done | with_reducible rfl | rfl
  rotate_left
  · simp only [Act.put, List.setIfInBounds_toArray, List.set_cons_zero, List.set_cons_succ, i64_w, i32_w]
    rfl
  refine pure_ (i := 17) (N := some 34) (v := ?_) (a' := ?_) #[true, true, true, true, true, true, true, true, true, true, true, true, true, true, true, true, true, true, false, false, false, false] rfl rfl (by kernel_rfl) (fun _ _ _ h => h) (Or.inl ⟨by rfl, ?_⟩) ?_ ?_
  rotate_left
  · intro w'
    go_simp
    first | done | with_reducible rfl | rfl
  rotate_left
  · simp only [Act.put, List.setIfInBounds_toArray, List.set_cons_zero, List.set_cons_succ, i64_w, i32_w]
    rfl
  refine pure_ (i := 18) (N := some 35) (v := ?_) (a' := ?_) #[true, true, true, true, true, true, true, true, true, true, true, true, true, true, true, true, true, true, true, false, false, false] rfl rfl (by kernel_rfl) (fun _ _ _ h => h) (Or.inl ⟨by rfl, ?_⟩) ?_ ?_
  rotate_left
  · intro w'
    go_simp
    first | done | with_reducible rfl | rfl
  rotate_left
  · simp only [Act.put, List.setIfInBounds_toArray, List.set_cons_zero, List.set_cons_succ, i64_w, i32_w]
    rfl
  refine one_ (i := 19) (N := some 36) #[true, true, true, true, true, true, true, true, true, true, true, true, true, true, true, true, true, true, true, true, false, false] rfl rfl (by kernel_rfl) (by decide) (fun K hK => ?_)
  refine goes_ Try.func14 (by kernel_rfl) rfl #[] (by rfl) rfl rfl (by (try simp only [List.map_toArray, List.map_cons, List.map_nil]); first | done | rfl) ?_
  refine (H14.out _).mono ?_
  rintro e W9 ⟨rfl, hb⟩
  have X9 := X8.call hb
  have Y9 := blk_below Y8 hb
  clear hb X8 Y8 hHeld H14
  refine ⟨_, rfl, ?_⟩
  refine hK.out _ _ (X9.cells) (fun hHeld => ?_)
  clear hK K
  refine norm_ (a' := ?_) ?_ ?_
  rotate_left
  · show Act.put _ (some 36) _ = _
    simp only [Act.put, List.setIfInBounds_toArray, List.set_cons_zero, List.set_cons_succ, i64_w, i32_w]
    rfl
  refine pure_ (i := 20) (N := some 37) (v := ?_) (a' := ?_) #[true, true, true, true, true, true, true, true, true, true, true, true, true, true, true, true, true, true, true, true, true, false] rfl rfl (by kernel_rfl) (fun _ _ _ h => h) (Or.inl ⟨by rfl, ?_⟩) ?_ ?_
  rotate_left
  · intro w'
    go_simp
    first | done | with_reducible rfl | rfl
  rotate_left
  · simp only [Act.put, List.setIfInBounds_toArray, List.set_cons_zero, List.set_cons_succ, i64_w, i32_w]
    rfl
  refine pure_ (i := 21) (N := some 4) (v := ?_) (a' := ?_) #[true, true, true, true, true, true, true, true, true, true, true, true, true, true, true, true, true, true, true, true, true, true] rfl rfl (by kernel_rfl) (fun _ _ _ h => h) (Or.inl ⟨by rfl, ?_⟩) ?_ ?_
  rotate_left
  · intro w'
    go_simp
    first | done | with_reducible rfl | rfl
  rotate_left
  · simp only [Act.put, List.setIfInBounds_toArray, List.set_cons_zero, List.set_cons_succ, i64_w, i32_w]
    rfl
  refine done_ (by kernel_rfl) ?_
  go_wp2
  exact bodyPost_ret (v := .bool true) (by simp [results, Try.results6, go_sem]) rfl ⟨rfl, X9.below⟩
theorem c6 (a b c d : Int) (w : World) : Calls Try.prog 6 #[.agg #[.int .i64 a, .int .i64 b], .agg #[.int .i64 c, .int .i64 d]] w fun e w' => e = .returned (.bool true) ∧ Below w.heap.size w w' := by
  by_cases hs : okS ⟨a, b⟩
  · by_cases ht : okS ⟨c, d⟩
    · cases hR : ov (a, b) (c, d) with
      | true => exact c6_t a b c d w hs ht hR
      | false => exact c6_f a b c d w hs ht hR
    · exact c6_b a b c d w hs ht
  · exact c6_a a b c d w hs
theorem c6r (a b c d : Int) (w : World) (_ : (Lit.int .i64 a).wf = true) (_ : (Lit.int .i64 b).wf = true) (_ : (Lit.int .i64 c).wf = true) (_ : (Lit.int .i64 d).wf = true) :
    Calls Try.prog 6 #[.agg #[.int .i64 a, .int .i64 b], .agg #[.int .i64 c, .int .i64 d]] w fun e w' => e = .returned (.bool true) ∧ Below w.heap.size w w' := c6 a b c d w
end Go.Proofs.Ytmfffeoodlmnbaa.C6
