/- Intervals.Merge of two sequences: what it returns. The walks. -/
import Derived.Test.YtmfffeoodlmnbaaMi
namespace Go.Proofs.Ytmfffeoodlmnbaa.Mr
set_option linter.unusedSimpArgs false
set_option linter.unusedVariables false
open Go.RowKit Go.Proofs.YtmfffeoodlmnbaaW.PrintWords Go.Proofs.YtmfffeoodlmnbaaW.PrintLast Go.Proofs.YtmfffeoodlmnbaaW.PrintMore Go.Proofs.Ytmfffeoodlmnbaa.Kit Go.Proofs.Ytmfffeoodlmnbaa.Sp Go.Proofs.Ytmfffeoodlmnbaa.Se Go.Proofs.Ytmfffeoodlmnbaa.In Go.Proofs.Ytmfffeoodlmnbaa.Iv Go.Proofs.Ytmfffeoodlmnbaa.Vp Go.Proofs.Ytmfffeoodlmnbaa.Ov Go.Proofs.Ytmfffeoodlmnbaa.Mi
abbrev RT (w0 W : World) (v : Value) (acc : List S63) : Prop := Kd.R k63 63 W w0.heap.size (fun _ => True) v acc
theorem RT.below {w0 W W' : World} {v : Value} {acc : List S63} (h : RT w0 W v acc) (hb : Below W.heap.size W W') : RT w0 W' v acc := Kd.R_below h hb
theorem RT.only {w0 W W' : World} {v : Value} {acc : List S63} {g t : Nat} {C : Array Value} (h : RT w0 W v acc) (hb : W.heap[g]? = some (.cells C t (0, 0))) (ht : 63 ≠ t) (o : Kept W W' (fun k => k = g)) : RT w0 W' v acc :=
  Kd.R_mono (Kd.R_kept (Kd.R_far1 h rfl (Kd.R_ne h hb ht)) o (fun _ hk => hk.2)) (fun _ _ => trivial)
theorem RT.row {w0 W : World} {v : Value} {acc : List S63} {g t : Nat} {C : Array Value} (h : RT w0 W v acc) (hb : W.heap[g]? = some (.cells C t (0, 0))) (ht : 63 ≠ t) (X : Array Value) : RT w0 (W.setRow g X) v acc :=
  h.only hb ht ⟨by simp, fun i _ hi => setRow_other W g i X hi⟩
/-- the visitor at g, the current interval in block f, what has been gathered. -/
structure Sm (w0 : World) (g f : Nat) (A1 : Option Addr) (n1 c1 : Nat) (A2 : Option Addr) (n2 c2 : Nat) (i j : Nat) (s t : Int × Int × Int) (v : Value) (acc : List S63) (W : World) : Prop where
  pv : W.heap[g]? = some (.cells (pvRow s.1 s.2.1 s.2.2 i j A1 n1 c1 A2 n2 c2) 72 (0, 0))
  bf : W.heap[f]? = some (.cells (vv t) 70 (0, 0))
  rt : RT w0 W v acc
  hg : w0.heap.size ≤ g
  hf : w0.heap.size ≤ f
  ne : f ≠ g
  below : Below w0.heap.size w0 W
/-- and the next one in block f2. -/
structure Rm (w0 : World) (g f f2 : Nat) (A1 : Option Addr) (n1 c1 : Nat) (A2 : Option Addr) (n2 c2 : Nat) (i j : Nat) (s t u : Int × Int × Int) (v : Value) (acc : List S63) (W : World) : Prop where
  pv : W.heap[g]? = some (.cells (pvRow s.1 s.2.1 s.2.2 i j A1 n1 c1 A2 n2 c2) 72 (0, 0))
  bf : W.heap[f]? = some (.cells (vv t) 70 (0, 0))
  b2 : W.heap[f2]? = some (.cells (vv u) 70 (0, 0))
  rt : RT w0 W v acc
  hg : w0.heap.size ≤ g
  hf : w0.heap.size ≤ f
  ne : f ≠ g
  ne2 : f2 ≠ f
  below : Below w0.heap.size w0 W
section
variable {w0 wr W W1 W2 : World} {g f f2 : Nat} {A1 : Option Addr} {n1 c1 : Nat} {A2 : Option Addr} {n2 c2 i j i' j' : Nat} {s t u : Int × Int × Int} {v v1 : Value} {acc acc1 : List S63} {C : Array Value}
theorem Sm.rd (S : Sm w0 g f A1 n1 c1 A2 n2 c2 i j s t v acc wr) (o1 : Only g wr W1) (p1 : W1.heap[g]? = some (.cells (pvRow u.1 u.2.1 u.2.2 i' j' A1 n1 c1 A2 n2 c2) 72 (0, 0))) (hb2 : Below W1.heap.size W1 W2) (ef : f2 = W1.heap.size) (kf : W2.heap[f2]? = some (.cells C 70 (0, 0))) :
    Rm w0 g f f2 A1 n1 c1 A2 n2 c2 i' j' u t u v acc (W2.setRow f2 (vv u)) := by
  have b1 := blk_kept S.bf o1.keep S.ne
  have r1 := S.rt.only S.pv (by decide) o1.keep
  have B1 := o1.out S.below S.below.size S.hg
  have hf2 : w0.heap.size ≤ f2 := by rw [ef]; exact B1.size
  have n2g : g ≠ f2 := by rw [ef]; exact Nat.ne_of_lt (blk_lt p1)
  have n2f : f ≠ f2 := by rw [ef]; exact Nat.ne_of_lt (blk_lt b1)
  exact ⟨(setRow_other W2 f2 g _ n2g).trans (blk_below p1 hb2), (setRow_other W2 f2 f _ n2f).trans (blk_below b1 hb2), setRow_heap W2 f2 _ _ _ _ kf, (r1.below hb2).row kf (by decide) _, S.hg, S.hf, S.ne, n2f.symm, below_setRow (B1.trans (hb2.mono B1.size)) hf2 _⟩
theorem Rm.call (S : Rm w0 g f f2 A1 n1 c1 A2 n2 c2 i j s t u v acc W) (hb : Below W.heap.size W W1) : Rm w0 g f f2 A1 n1 c1 A2 n2 c2 i j s t u v acc W1 :=
  ⟨blk_below S.pv hb, blk_below S.bf hb, blk_below S.b2 hb, S.rt.below hb, S.hg, S.hf, S.ne, S.ne2, S.below.trans (hb.mono S.below.size)⟩
theorem Rm.grown (S : Rm w0 g f f2 A1 n1 c1 A2 n2 c2 i j s t u v acc W) (hg : W.grownBy W1 v.ownBlock) (hb : Below w0.heap.size w0 W1) (hr : RT w0 W1 v1 acc1) : Rm w0 g f f2 A1 n1 c1 A2 n2 c2 i j s t u v1 acc1 W1 :=
  ⟨blk_grown S.pv hg (Kd.R_ne S.rt S.pv (by decide)), blk_grown S.bf hg (Kd.R_ne S.rt S.bf (by decide)), blk_grown S.b2 hg (Kd.R_ne S.rt S.b2 (by decide)), hr, S.hg, S.hf, S.ne, S.ne2, hb⟩
theorem Rm.next (S : Rm w0 g f f2 A1 n1 c1 A2 n2 c2 i j s t u v acc W) : Sm w0 g f A1 n1 c1 A2 n2 c2 i j s u v acc (W.setRow f (vv u)) :=
  ⟨(setRow_other W f g _ S.ne.symm).trans S.pv, setRow_heap W f _ _ _ _ S.bf, S.rt.row S.bf (by decide) _, S.hg, S.hf, S.ne, below_setRow S.below S.hf _⟩
theorem Rm.merged (S : Rm w0 g f f2 A1 n1 c1 A2 n2 c2 i j s t u v acc W) (t' : Int × Int × Int) (hp : W1.heap[f]? = some (.cells (vv t') 70 (0, 0))) (o : Only f W W1) : Sm w0 g f A1 n1 c1 A2 n2 c2 i j s t' v acc W1 :=
  ⟨blk_kept S.pv o.keep S.ne.symm, hp, S.rt.only S.bf (by decide) o.keep, S.hg, S.hf, S.ne, o.out S.below S.below.size S.hf⟩
theorem Rm.f0 (S : Rm w0 g f f2 A1 n1 c1 A2 n2 c2 i j s t u v acc W) : W.cell? ⟨f, 0, none⟩ = some (.int .i64 t.1) := (blk_cell S.bf 0).trans rfl
theorem Rm.f1 (S : Rm w0 g f f2 A1 n1 c1 A2 n2 c2 i j s t u v acc W) : W.cell? ⟨f, 1, none⟩ = some (.int .i64 t.2.1) := (blk_cell S.bf 1).trans rfl
theorem Rm.d0 (S : Rm w0 g f f2 A1 n1 c1 A2 n2 c2 i j s t u v acc W) : W.cell? ⟨f2, 0, none⟩ = some (.int .i64 u.1) := (blk_cell S.b2 0).trans rfl
theorem Rm.d1 (S : Rm w0 g f f2 A1 n1 c1 A2 n2 c2 i j s t u v acc W) : W.cell? ⟨f2, 1, none⟩ = some (.int .i64 u.2.1) := (blk_cell S.b2 1).trans rfl
end
def okB (q : Iv.Sp) : Prop := -2305843009213693952 ≤ q.1 ∧ q.1 ≤ 2305843009213693952 ∧ -2305843009213693952 ≤ q.2 ∧ q.2 ≤ 2305843009213693952
theorem okB.join {s t : Iv.Sp} (hs : okB s) (ht : okB t) : okB (Mi.mn s.1 t.1, Mi.mx s.2 t.2) := by
  unfold okB Mi.mn Mi.mx at *; refine ⟨?_, ?_, ?_, ?_⟩ <;> simp only <;> split <;> omega
theorem join_mn (s t : Iv.Sp) : Iv.join s t = (Mi.mn s.1 t.1, Mi.mx s.2 t.2) := by
  unfold Iv.join Mi.mn Mi.mx; refine Prod.ext ?_ ?_ <;> simp only <;> split <;> omega
theorem adj_f (s t : Iv.Sp) : intervals_Interval_adjacent.f s.1 s.2 t.1 t.2 = some (Iv.adj s t) := by
  unfold intervals_Interval_adjacent.f Iv.adj
  split
  · rename_i h; simp [h]
  · rename_i h; simp [h]
theorem msm {W : World} {g n : Nat} {w0 : World} {f : Nat} {A1 : Option Addr} {n1 c1 : Nat} {A2 : Option Addr} {n2 c2 i j : Nat} {s t : Int × Int × Int} {v : Value} {acc : List S63} (S : Sm w0 g f A1 n1 c1 A2 n2 c2 i j s t v acc W) : ms g n W = ((n : Int) - i - j).toNat := ms_row S.pv
theorem fold_yes (c q : Iv.Sp) (l : List Iv.Sp) (h : Iv.touch c q = true) : Iv.fold c (q :: l) = Iv.fold (Iv.join c q) l := by simp only [Iv.fold, h, if_true]
theorem fold_no (c q : Iv.Sp) (l : List Iv.Sp) (h : Iv.touch c q = false) : Iv.fold c (q :: l) = c :: Iv.fold q l := by simp [Iv.fold, h]
def PM (l1 l2 : List S63) (i j : Nat) : List Iv.Sp := (PL l1 l2 i j).map (·.1)
theorem mergeL_cons (l1 l2 : List S63) (h1 : 0 < l1.length) (h2 : 0 < l2.length) (q : Iv.Sp) (k : Nat) (i j : Nat) (h : PL l1 l2 0 0 = (q, k) :: PL l1 l2 i j) : mergeL (l1.map sp) (l2.map sp) = Iv.fold q (PM l1 l2 i j) := by
  unfold mergeL
  rw [if_neg (by intro e; have := congrArg List.length e; simp at this; simp [this] at h1), if_neg (by intro e; have := congrArg List.length e; simp at this; simp [this] at h2)]
  unfold PL at h
  rw [List.drop_zero, List.drop_zero] at h
  rw [h]; rfl
set_option maxHeartbeats 8000000 in
set_option maxRecDepth 100000 in
theorem c30_loop (l1 l2 : List S63) (A1 : Option Addr) (c1 : Nat) (A2 : Option Addr) (c2 : Nat) (w : World) (n1 n2 : Nat) (hn1 : l1.length = n1) (hn2 : l2.length = n2) (hc1 : Kd.C k63 w A1 n1 l1) (hc2 : Kd.C k63 w A2 n2 l2)
    (h1 : 0 < n1) (h2 : 0 < n2) (hl1 : n1 ≤ 4000000) (hl2 : n2 ≤ 4000000) (hb1 : Bd l1) (hb2 : Bd l2) :
    Calls Try.prog 30 #[.slice A1 n1 c1, .slice A2 n2 c2] w fun e w' => ∃ (v : Value) (L : List S63), e = .returned v ∧ RT w w' v L ∧ L.map sp = mergeL (l1.map sp) (l2.map sp) ∧ Below w.heap.size w w' := by
  obtain ⟨R, hRR⟩ : ∃ R, mergeL (l1.map sp) (l2.map sp) = R := ⟨_, rfl⟩
  rw [hRR]
  have n1' : ((n1 : Int) == 0) = false := by apply beq_false_of_ne; omega
  have n2' : ((n2 : Int) == 0) = false := by apply beq_false_of_ne; omega
  have H := Lib.hid (And.intro h1 (And.intro h2 (And.intro hl1 (And.intro hl2 (And.intro hb1 (And.intro hb2 (And.intro hn1 (And.intro hn2 hRR))))))))
  have K1 : Hid (∀ W, Below w.heap.size w W → Kd.C k63 W A1 n1 l1) := Lib.hid (fun W hb => Kd.C_below hc1 hb)
  have K2 : Hid (∀ W, Below w.heap.size w W → Kd.C k63 W A2 n2 l2) := Lib.hid (fun W hb => Kd.C_below hc2 hb)
  clear hRR hn1 hn2 hc1 hc2 h1 h2 hb1 hb2 hl1 hl2
  go_enter Try.func30, Try.ntmps30
  go_upto_region 7 with (fail)
  clear n1' n2'
  have b0 : (w.alloc (Obj.cells #[.int .i64 0, .int .i64 0, .int .i64 0, .int .i64 0, .int .i64 0, .slice none 0 0, .slice none 0 0] 72)).heap[w.heap.size]? = some (.cells (pvRow 0 0 0 0 0 none 0 0 none 0 0) 72 (0, 0)) := blk_new w _
  have B0 : Below w.heap.size w (w.alloc (Obj.cells #[.int .i64 0, .int .i64 0, .int .i64 0, .int .i64 0, .int .i64 0, .slice none 0 0, .slice none 0 0] 72)) := (Below.refl _ _).alloc (Nat.le_refl _) _
  generalize w.alloc _ = W0 at *
  obtain ⟨h1, h2, hl1, hl2, hb1, hb2, hn1, hn2, hRR⟩ := H.out
  obtain ⟨q, k, hk, hq, hi0, hj0, hs0, hR⟩ : ∃ (q : Iv.Sp) (k : Nat), k ≤ 1 ∧ okB q ∧ nI k 0 ≤ n1 ∧ nJ k 0 ≤ n2 ∧ sv l1 l2 0 0 = (q.1, q.2, (k : Int)) ∧ R = Iv.fold q (PM l1 l2 (nI k 0) (nJ k 0)) := by
    rcases step2 l1 l2 n1 n2 hn1 hn2 0 0 (by omega) (by omega) with ⟨_, hP⟩ | ⟨q, k, hk, hm, hi, hj, hs, hP⟩
    · exfalso
      rcases sv_step l1 l2 0 0 (by omega) (by omega) with ⟨_, e, _⟩ | ⟨q, _, _, _, hP2⟩ | ⟨q, _, _, _, hP2⟩
      · omega
      · rw [hP] at hP2; cases hP2
      · rw [hP] at hP2; cases hP2
    · exact ⟨q, k, hk, hm.elim (hb1 q) (hb2 q), hi, hj, hs, hRR.symm.trans (mergeL_cons l1 l2 (by omega) (by omega) q k _ _ hP)⟩
  have HR := Lib.hid hR
  have H42 := Lib.hid (c42n w.heap.size n1 n2 l1 l2 hn1 hn2 A1 c1 A2 c2 W0 b0 (fun W ho => K1.out W (ho.out B0 B0.size (Nat.le_refl _))) (fun W ho => K2.out W (ho.out B0 B0.size (Nat.le_refl _))))
  rw [hs0] at H42
  have HB0 := Lib.hid B0
  have HQ := Lib.hid hq
  have HI := Lib.hid (And.intro hk (And.intro hi0 hj0))
  clear b0 B0 hs0 hq hk hi0 hj0 h1 h2 hl1 hl2 hb1 hb2 hn1 hn2 hR hRR
  go_wp2_with (first
    | (go_at_call 42; refine H42.out.mono ?_; rintro e W1 ⟨rfl, p1, o1⟩; have B1 := o1.out HB0.out HB0.out.size (Nat.le_refl _); clear H42)
    | ((with_reducible refine gate_dst (N := 7) rfl ?_); refine box_event ?hg (N := 7) ?hd (cs := #[.int .i64 0, .int .i64 0, .int .i64 0]) (t := 70) ?hr ?_; (case hd => rfl); (case hg => rfl); (case hr => first | (go_simp; done) | (go_simp; rfl)); intro f ef W2 kf hb2; have p2 := blk_below p1 hb2; have B2 := B1.trans (hb2.mono B1.size); have hf : w.heap.size ≤ f := (by rw [ef]; exact B1.size); have ne : f ≠ w.heap.size := (by rw [ef]; exact (Nat.ne_of_lt (blk_lt p1)).symm); clear ef)
    | (refine wpList_store_row rfl 70 (.tmp 7) _ rfl f (vv (q.1, q.2, (k : Int))) rfl rfl 70 _ kf (by kernel_rfl) rfl (by simp [Value.oneCell']) ?_; have S3 := Sm.mk (w0 := w) (g := w.heap.size) (f := f) (i := 0) (j := 0) (s := (q.1, q.2, (k : Int))) (t := (q.1, q.2, (k : Int))) ((setRow_other W2 f w.heap.size (vv (q.1, q.2, (k : Int))) ne.symm).trans p2) (setRow_heap W2 f _ (vv (q.1, q.2, (k : Int))) _ _ kf) (Kd.R_nil k63 63 _ w.heap.size (fun _ => True)) (Nat.le_refl _) hf ne (below_setRow B2 hf _); clear p1 p2 o1 B1 B2 hb2 kf))
  generalize W2.setRow f _ = W3 at *
  clear HB0 hf ne
  generalize w.heap.size = g at S3 ⊢
  simp only [Act.put, List.setIfInBounds_toArray, List.set_cons_succ, List.set_cons_zero]
  go_loopw [5] (fun v wr => ∃ (i j k : Nat) (q c : Iv.Sp) (m : Int) (acc : List S63), Sm w g f A1 n1 c1 A2 n2 c2 i j (q.1, q.2, (k : Int)) (c.1, c.2, m) v acc wr ∧ k ≤ 1 ∧ i ≤ n1 ∧ j ≤ n2 ∧ nI k i ≤ n1 ∧ nJ k j ≤ n2 ∧ okB c ∧ acc.length ≤ i + j ∧ R = acc.map sp ++ Iv.fold c (PM l1 l2 (nI k i) (nJ k j))) (fun _ wr => ms g (n1 + n2) wr)
  case atStart => exact ⟨0, 0, k, q, q, k, [], S3, HI.out.1, Nat.zero_le _, Nat.zero_le _, HI.out.2.1, HI.out.2.2, HQ.out, Nat.le_refl _, HR.out⟩
  case round =>
    obtain ⟨i, j, k, q, c, m, acc, S, hk, hi, hj, hni, hnj, hc, hacc, hR⟩ := hrel
    clear S3 HR HQ HI
    obtain ⟨_, _, hl1, hl2, hb1, hb2, hn1, hn2, _⟩ := H.out
    have key : ∀ s, sv l1 l2 (nI k i : Nat) (nJ k j : Nat) = s → Calls Try.prog 43 #[.pointer (some ⟨g, 0, none⟩)] wr fun e w' => e = .returned (.agg (vv s)) ∧ w'.heap[g]? = some (.cells (pvRow s.1 s.2.1 s.2.2 (nI k i : Nat) (nJ k j : Nat) A1 n1 c1 A2 n2 c2) 72 (0, 0)) ∧ Only g wr w' :=
      fun s hs => c43n g n1 n2 q.1 q.2 k i j l1 l2 hn1 hn2 hl1 hl2 hk hi hj A1 c1 A2 c2 wr S.pv (fun W ho => K1.out W (ho.out S.below S.below.size S.hg)) (fun W ho => K2.out W (ho.out S.below S.below.size S.hg)) s hs
    have hu70 := Try.underlying70
    have hu63 := Try.underlying63
    have hsum := nI_nJ k i j
    rcases step2 l1 l2 n1 n2 hn1 hn2 (nI k i) (nJ k j) hni hnj with ⟨hs, hP⟩ | ⟨q2, k2, hk2, hq2, hni2, hnj2, hs, hP⟩
    · have H43 := Lib.hid (key _ hs)
      have HR := Lib.hid hR
      have HP := Lib.hid hP
      have HL := Lib.hid (show (acc.length + 1) * 16 ≤ 140737488355328 by omega)
      clear key hs hP hR hb1 hb2 hl1 hl2 hn1 hn2 hni hnj hi hj hk hc H hacc hsum
      go_upto_region 9 with (first
        | (go_at_call 43; refine H43.out.mono ?_; rintro e W1 ⟨rfl, p1, o1⟩; clear H43)
        | ((with_reducible refine gate_dst (N := 8) rfl ?_); refine box_event ?hg (N := 8) ?hd (cs := #[.int .i64 0, .int .i64 0, .int .i64 0]) (t := 70) ?hr ?_; (case hd => rfl); (case hg => rfl); (case hr => first | (go_simp; done) | (go_simp; rfl)); intro f2 ef W2 kf hb2; have T := S.rd (u := ((0, 0, -1) : Int × Int × Int)) o1 p1 hb2 ef kf; clear ef hb2 p1 o1)
        | (refine wpList_store_row rfl 70 (.tmp 8) _ rfl f2 (vv ((0, 0, -1) : Int × Int × Int)) rfl rfl 70 _ kf (by kernel_rfl) rfl (by simp [Value.oneCell']) ?_; clear kf))
      generalize W2.setRow f2 _ = W3 at *
      go_upto_region 14 with (first
        | (refine wpList_load_mid rfl 70 (.tmp 8) rfl f2 0 rfl [.int .i64 0, .int .i64 0, .int .i64 (-1)] _ (range3 T.b2 _ _ _ rfl rfl rfl) hu70 rfl (by kernel_rfl) ?_)
        | (go_at_call 44; refine (intervals_intWithIdx_done.calls 0 0 (-1) true _ rfl).mono ?_; rintro e W4 ⟨rfl, hb⟩; have T2 := T.call hb; clear T hb))
      have x0 := T2.f0
      have x1 := T2.f1
      go_wp2_with (first
        | ((with_reducible refine gate_builtin (b := .append) (xs := #[.tmp 47, .tmp 50]) rfl ?_); at_builtin; refine Kd.R_append k63 (w0 := w) w.heap.size rfl (.tmp 47) (.tmp 50) 49 63 (.agg #[(.int .i64 0), (.int .i64 0)]) 16 rfl Try.underlying49 info63 rfl (by decide) (by omega) _ acc (⟨c.1, c.2⟩ : S63) [.int .i64 c.1, .int .i64 c.2] (fun _ => True) (fun _ => False) rfl rfl ?aP (fun _ hk => hk.elim) ?aF ?aO ?aB ?aS ?aL ?_; (case aP => exact k63_mkM _ _ _ (⟨c.1, c.2⟩ : S63)); (case aB => exact T2.below); (case aF => exact (fun _ _ => trivial)); (case aO => exact T2.rt); (case aS => exact T2.below.size); (case aL => exact HL.out); intro v1 W5 ho hb hgr _; have T3 := Rm.grown T2 hgr hb ho; clear hgr hb ho T2))
      rw [HR.out]
      refine bodyPost_ret (v := v1) (by simp [results, Try.results30, go_sem]) rfl ⟨v1, rfl, _, T3.rt, ?_, T3.below⟩
      rw [PM, HP.out]
      simp [sp, Iv.fold]
    · have H43 := Lib.hid (key _ hs)
      have HR := Lib.hid hR
      have hP' : PM l1 l2 (nI k i) (nJ k j) = q2 :: PM l1 l2 (nI k2 (nI k i)) (nJ k2 (nJ k j)) := by unfold PM; rw [hP]; rfl
      have HP := Lib.hid hP'
      have HL := Lib.hid (show (acc.length + 1) * 16 ≤ 140737488355328 by omega)
      have hq2' : okB q2 := hq2.elim (hb1 q2) (hb2 q2)
      have HK := Lib.hid (And.intro hk (And.intro hk2 (And.intro hni (And.intro hnj (And.intro hni2 (And.intro hnj2 (And.intro hc (And.intro hq2' (And.intro hacc hsum)))))))))
      have HD : Hid (∀ W, Calls Try.prog 44 #[.agg #[.int .i64 q2.1, .int .i64 q2.2, .int .i64 (k2 : Int)]] W fun e w' => e = .returned (.bool false) ∧ Below W.heap.size W w') := Lib.hid (fun W => intervals_intWithIdx_done.calls _ _ _ false W (congrArg some (beq_false_of_ne (by omega))))
      have HO : Hid (∀ W, Calls Try.prog 38 #[.agg #[.int .i64 c.1, .int .i64 c.2], .agg #[.int .i64 q2.1, .int .i64 q2.2]] W fun e w' => e = .returned (.bool (ov c q2)) ∧ Below W.heap.size W w') := Lib.hid (fun W => intervals_Interval_Overlaps.calls _ _ _ _ _ W (over_f c q2 hc hq2'))
      have HA : Hid (∀ W, Calls Try.prog 45 #[.agg #[.int .i64 c.1, .int .i64 c.2], .agg #[.int .i64 q2.1, .int .i64 q2.2]] W fun e w' => e = .returned (.bool (adj c q2)) ∧ Below W.heap.size W w') := Lib.hid (fun W => intervals_Interval_adjacent.calls _ _ _ _ _ W (adj_f c q2))
      clear key hs hP hP' hR hb1 hb2 hl1 hl2 hn1 hn2 hni hnj hi hj hk hc H hacc hsum hk2 hq2 hq2' hni2 hnj2
      go_upto_region 9 with (first
        | (go_at_call 43; refine H43.out.mono ?_; rintro e W1 ⟨rfl, p1, o1⟩; clear H43)
        | ((with_reducible refine gate_dst (N := 8) rfl ?_); refine box_event ?hg (N := 8) ?hd (cs := #[.int .i64 0, .int .i64 0, .int .i64 0]) (t := 70) ?hr ?_; (case hd => rfl); (case hg => rfl); (case hr => first | (go_simp; done) | (go_simp; rfl)); intro f2 ef W2 kf hb2; have T := S.rd (u := ((q2.1, q2.2, (k2 : Int)) : Int × Int × Int)) o1 p1 hb2 ef kf; clear ef hb2 p1 o1)
        | (refine wpList_store_row rfl 70 (.tmp 8) _ rfl f2 (vv ((q2.1, q2.2, (k2 : Int)) : Int × Int × Int)) rfl rfl 70 _ kf (by kernel_rfl) rfl (by simp [Value.oneCell']) ?_; clear kf))
      generalize W2.setRow f2 _ = W3 at *
      go_upto_region 10 with (first
        | (refine wpList_load_mid rfl 70 (.tmp 8) rfl f2 0 rfl [.int .i64 q2.1, .int .i64 q2.2, .int .i64 (k2 : Int)] _ (range3 T.b2 _ _ _ rfl rfl rfl) hu70 rfl (by kernel_rfl) ?_)
        | (go_at_call 44; refine (HD.out _).mono ?_; rintro e W4 ⟨rfl, hb⟩; have T2 := T.call hb; clear T hb))
      have x0 := T2.f0
      have x1 := T2.f1
      have y0 := T2.d0
      have y1 := T2.d1
      cases ho : ov c q2 with
      | true =>
        rw [ho] at HO
        have HT : Hid (Iv.touch c q2 = true) := Lib.hid (by unfold Iv.touch; rw [ho]; rfl)
        clear ho
        go_wp2_with (first
          | (go_at_call 38; refine (HO.out _).mono ?_; rintro e W5 ⟨rfl, hb⟩; have T3 := T2.call hb; have z0 := T3.d0; have z1 := T3.d1; clear hb)
          | (go_at_call 46; refine (c46_over f c.1 c.2 q2.1 q2.2 m _ T3.bf HO).mono ?_; rintro e W6 ⟨rfl, hp, o6⟩; have S5 := T3.merged (Mi.mn c.1 q2.1, Mi.mx c.2 q2.2, m) hp o6; clear hp o6))
        obtain ⟨hk, hk2, hni, hnj, hni2, hnj2, hc, hq2, hacc, hsum⟩ := HK.out
        refine ⟨⟨nI k i, nJ k j, k2, q2, (Mi.mn c.1 q2.1, Mi.mx c.2 q2.2), m, acc, S5, hk2, hni, hnj, hni2, hnj2, hc.join hq2, by omega, ?_⟩, ?_⟩
        · rw [HR.out, HP.out, fold_yes _ _ _ HT.out, join_mn]
        · rw [msm S, msm S5]; omega
      | false =>
        rw [ho] at HO
        cases ha : adj c q2 with
        | true =>
          rw [ha] at HA
          have HT : Hid (Iv.touch c q2 = true) := Lib.hid (by unfold Iv.touch; rw [ho, ha]; rfl)
          clear ho ha
          go_wp2_with (first
            | (go_at_call 38; refine (HO.out _).mono ?_; rintro e W5 ⟨rfl, hb⟩; have T3 := T2.call hb; have z0 := T3.d0; have z1 := T3.d1; have z2 := T3.f0; have z3 := T3.f1; clear hb)
            | (go_at_call 45; refine (HA.out _).mono ?_; rintro e W6 ⟨rfl, hb⟩; have T4 := T3.call hb; have z4 := T4.d0; have z5 := T4.d1; clear hb)
            | (go_at_call 46; refine (c46_adj f c.1 c.2 q2.1 q2.2 m _ T4.bf HO HA).mono ?_; rintro e W7 ⟨rfl, hp, o6⟩; have S5 := T4.merged (Mi.mn c.1 q2.1, Mi.mx c.2 q2.2, m) hp o6; clear hp o6))
          obtain ⟨hk, hk2, hni, hnj, hni2, hnj2, hc, hq2, hacc, hsum⟩ := HK.out
          refine ⟨⟨nI k i, nJ k j, k2, q2, (Mi.mn c.1 q2.1, Mi.mx c.2 q2.2), m, acc, S5, hk2, hni, hnj, hni2, hnj2, hc.join hq2, by omega, ?_⟩, ?_⟩
          · rw [HR.out, HP.out, fold_yes _ _ _ HT.out, join_mn]
          · rw [msm S, msm S5]; omega
        | false =>
          rw [ha] at HA
          have HT : Hid (Iv.touch c q2 = false) := Lib.hid (by unfold Iv.touch; rw [ho, ha]; rfl)
          clear ho ha
          go_upto_region 11 with (first
            | (go_at_call 38; refine (HO.out _).mono ?_; rintro e W5 ⟨rfl, hb⟩; have T3 := T2.call hb; have z0 := T3.d0; have z1 := T3.d1; have z2 := T3.f0; have z3 := T3.f1; clear hb)
            | (go_at_call 45; refine (HA.out _).mono ?_; rintro e W6 ⟨rfl, hb⟩; have T4 := T3.call hb; have z4 := T4.f0; have z5 := T4.f1; clear hb))
          go_wp2_with (first
            | ((with_reducible refine gate_builtin (b := .append) (xs := #[.tmp 37, .tmp 40]) rfl ?_); at_builtin; refine Kd.R_append k63 (w0 := w) w.heap.size rfl (.tmp 37) (.tmp 40) 49 63 (.agg #[(.int .i64 0), (.int .i64 0)]) 16 rfl Try.underlying49 info63 rfl (by decide) (by omega) _ acc (⟨c.1, c.2⟩ : S63) [.int .i64 c.1, .int .i64 c.2] (fun _ => True) (fun _ => False) rfl rfl ?aP (fun _ hk => hk.elim) ?aF ?aO ?aB ?aS ?aL ?_; (case aP => exact k63_mkM _ _ _ (⟨c.1, c.2⟩ : S63)); (case aB => exact T4.below); (case aF => exact (fun _ _ => trivial)); (case aO => exact T4.rt); (case aS => exact T4.below.size); (case aL => exact HL.out); intro v1 W7 ho hb hgr _; have T5 := Rm.grown T4 hgr hb ho; clear hgr hb ho T4)
            | (refine wpList_load_mid rfl 70 (.tmp 8) rfl f2 0 rfl [.int .i64 q2.1, .int .i64 q2.2, .int .i64 (k2 : Int)] _ (range3 T5.b2 _ _ _ rfl rfl rfl) hu70 rfl (by kernel_rfl) ?_)
            | (refine wpList_store_row rfl 70 (.tmp 7) _ rfl f (vv ((q2.1, q2.2, (k2 : Int)) : Int × Int × Int)) rfl rfl 70 _ T5.bf (by kernel_rfl) rfl (by simp [Value.oneCell']) ?_; have S5 := T5.next))
          simp only [Act.put, List.setIfInBounds_toArray, List.set_cons_succ, List.set_cons_zero]
          go_roundw
          case rel =>
            obtain ⟨hk, hk2, hni, hnj, hni2, hnj2, hc, hq2, hacc, hsum⟩ := HK.out
            refine ⟨nI k i, nJ k j, k2, q2, q2, k2, acc ++ [⟨c.1, c.2⟩], S5, hk2, hni, hnj, hni2, hnj2, hq2, by rw [List.length_append]; simp; omega, ?_⟩
            rw [HR.out, HP.out, fold_no _ _ _ HT.out]
            simp [sp]
          case measure =>
            obtain ⟨hk, hk2, hni, hnj, hni2, hnj2, hc, hq2, hacc, hsum⟩ := HK.out
            rw [msm S, msm S5]; omega
end Go.Proofs.Ytmfffeoodlmnbaa.Mr
