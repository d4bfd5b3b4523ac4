/- intervals.ZZPairs of two sequences: what it returns. The walk. -/
import Derived.Test.YtmfffeoodlmnbaaMr
import Derived.Test.YtmfffeoodlmnbaaPj
namespace Go.Proofs.Ytmfffeoodlmnbaa.Zp
set_option linter.unusedSimpArgs false
set_option linter.unusedVariables false
open Go.RowKit Go.Proofs.YtmfffeoodlmnbaaW.PrintWords Go.Proofs.YtmfffeoodlmnbaaW.PrintLast Go.Proofs.YtmfffeoodlmnbaaW.PrintMore Go.Proofs.Ytmfffeoodlmnbaa.Kit Go.Proofs.Ytmfffeoodlmnbaa.Sp Go.Proofs.Ytmfffeoodlmnbaa.Se Go.Proofs.Ytmfffeoodlmnbaa.In Go.Proofs.Ytmfffeoodlmnbaa.Iv Go.Proofs.Ytmfffeoodlmnbaa.Vp Go.Proofs.Ytmfffeoodlmnbaa.Ov Go.Proofs.Ytmfffeoodlmnbaa.Mi Go.Proofs.Ytmfffeoodlmnbaa.Mr Go.Proofs.Ytmfffeoodlmnbaa.Pj
section
open Go
variable {P : Program} {ops : Array Oper} {Q : Exit → Act → World → Prop}
theorem val_ {oi : Oper} {N : Option Tmp} {a : Act} {w w1 : World} {v : Value} {K : Act → World → Prop} (hw : Region.wanted oi (yielded ops a.tmps) = true) (hN : oi.dst = N) (hrun : (execOp a.eval oi).run P w = .ok (.value v) w1)
    (h : K (a.put N v) w1) : if Region.wanted oi (yielded ops a.tmps) = true then Oper.wp P oi a w K Q else K (a.put N undef) w := by
  rw [if_pos hw]
  unfold Oper.wp
  rw [hrun]
  subst hN
  exact h
end
abbrev kI : Kd Int := Kd.int .i64
abbrev RI (w0 W : World) (v : Value) (acc : List Int) : Prop := Kd.R kI 3 W w0.heap.size (fun _ => True) v acc
theorem info3 : (Try.prog.info? 3).map (fun i => (i.zero, i.size, i.bytes)) = some (some (.int .i64 0), 1, 8) := by kernel_rfl
theorem k63_KM (W : World) (base : Nat) (ok : Nat → Prop) (x : S63) (cs : List Value) (h : k63.K W x cs) : k63.M W base ok x cs := by
  rw [k63_open h]; exact k63_mkM _ _ _ x
theorem kI_KM (W : World) (base : Nat) (ok : Nat → Prop) (x : Int) (cs : List Value) (h : kI.K W x cs) : kI.M W base ok x cs := h
theorem ne3 : ∀ q, q ∈ 3 :: kI.E → q ≠ 63 := by
  intro q hq
  have : q = 3 := by simpa [kI, Kd.int, Kd.scalar] using hq
  rw [this]; decide
theorem ne63 : ∀ q, q ∈ 63 :: k63.E → q ≠ 3 := by
  intro q hq
  have : q = 63 := by simpa [k63, Kd.iso, Kd.pair, Kd.int, Kd.scalar] using hq
  rw [this]; decide
/-- the visitor at g, the current interval in block f, what has been gathered. -/
structure Zs (w0 : World) (g f : Nat) (A1 : Option Addr) (n1 c1 : Nat) (A2 : Option Addr) (n2 c2 : Nat) (i j : Nat) (t : Int × Int × Int) (v : Value) (acc : List S63) (u : Value) (ofs : List Int) (W : World) : Prop where
  pv : W.heap[g]? = some (.cells (pvRow t.1 t.2.1 t.2.2 i j A1 n1 c1 A2 n2 c2) 72 (0, 0))
  bf : W.heap[f]? = some (.cells (vv t) 70 (0, 0))
  rt : RT w0 W v acc
  ru : RI w0 W u ofs
  hg : w0.heap.size ≤ g
  hf : w0.heap.size ≤ f
  ne : f ≠ g
  below : Below w0.heap.size w0 W
section
variable {w0 W W1 W2 : World} {g f f2 : Nat} {A1 : Option Addr} {n1 c1 : Nat} {A2 : Option Addr} {n2 c2 i j i' j' : Nat} {t t' : Int × Int × Int} {v v1 : Value} {acc acc1 : List S63} {u u1 : Value} {ofs ofs1 : List Int} {C : Array Value}
theorem Zs.call (S : Zs w0 g f A1 n1 c1 A2 n2 c2 i j t v acc u ofs W) (hb : Below W.heap.size W W1) : Zs w0 g f A1 n1 c1 A2 n2 c2 i j t v acc u ofs W1 :=
  ⟨blk_below S.pv hb, blk_below S.bf hb, Kd.R_below S.rt hb, Kd.R_below S.ru hb, S.hg, S.hf, S.ne, S.below.trans (hb.mono S.below.size)⟩
theorem Zs.grow1 (S : Zs w0 g f A1 n1 c1 A2 n2 c2 i j t v acc u ofs W) (hg : W.grownBy W1 v.ownBlock) (hb : Below w0.heap.size w0 W1) (hr : RT w0 W1 v1 acc1) : Zs w0 g f A1 n1 c1 A2 n2 c2 i j t v1 acc1 u ofs W1 :=
  ⟨blk_grown S.pv hg (Kd.R_ne S.rt S.pv (by decide)), blk_grown S.bf hg (Kd.R_ne S.rt S.bf (by decide)), hr, Kd.R_over S.ru S.rt ne3 hg, S.hg, S.hf, S.ne, hb⟩
theorem Zs.grow2 (S : Zs w0 g f A1 n1 c1 A2 n2 c2 i j t v acc u ofs W) (hg : W.grownBy W1 u.ownBlock) (hb : Below w0.heap.size w0 W1) (hr : RI w0 W1 u1 ofs1) : Zs w0 g f A1 n1 c1 A2 n2 c2 i j t v acc u1 ofs1 W1 :=
  ⟨blk_grown S.pv hg (Kd.R_ne S.ru S.pv (by decide)), blk_grown S.bf hg (Kd.R_ne S.ru S.bf (by decide)), Kd.R_over S.rt S.ru ne63 hg, hr, S.hg, S.hf, S.ne, hb⟩
theorem Zs.cells (S : Zs w0 g f A1 n1 c1 A2 n2 c2 i j t v acc u ofs W) : W.cell? ⟨f, 0, none⟩ = some (.int .i64 t.1) ∧ W.cell? ⟨f, 1, none⟩ = some (.int .i64 t.2.1) ∧ W.cell? ⟨f, 2, none⟩ = some (.int .i64 t.2.2) :=
  ⟨(blk_cell S.bf 0).trans rfl, (blk_cell S.bf 1).trans rfl, (blk_cell S.bf 2).trans rfl⟩
/-- the loop's variable lies anew. -/
theorem Zs.fresh (S : Zs w0 g f A1 n1 c1 A2 n2 c2 i j t v acc u ofs W) (hb2 : Below W.heap.size W W2) (ef : f2 = W.heap.size) (kf : W2.heap[f2]? = some (.cells C 70 (0, 0))) : Zs w0 g f2 A1 n1 c1 A2 n2 c2 i j t v acc u ofs (W2.setRow f2 (vv t)) := by
  have hf2 : w0.heap.size ≤ f2 := by rw [ef]; exact S.below.size
  have n2g : g ≠ f2 := by rw [ef]; exact Nat.ne_of_lt (blk_lt S.pv)
  refine ⟨(setRow_other W2 f2 g _ n2g).trans (blk_below S.pv hb2), setRow_heap W2 f2 _ _ _ _ kf, (RT.below S.rt hb2).row kf (by decide) _, ?_, S.hg, hf2, n2g.symm, below_setRow (S.below.trans (hb2.mono S.below.size)) hf2 _⟩
  have h1 := Kd.R_below S.ru hb2
  exact Kd.R_mono (Kd.R_kept (Kd.R_far1 h1 rfl (Kd.R_ne h1 kf (by decide))) (S := fun k => k = f2) ⟨by simp, fun i _ hi => setRow_other W2 f2 i _ hi⟩ (fun _ hk => hk.2)) (fun _ _ => trivial)
/-- the visitor goes on. -/
theorem Zs.nxt (S : Zs w0 g f A1 n1 c1 A2 n2 c2 i j t v acc u ofs W) (o1 : Only g W W1) (p1 : W1.heap[g]? = some (.cells (pvRow t'.1 t'.2.1 t'.2.2 i' j' A1 n1 c1 A2 n2 c2) 72 (0, 0))) : Zs w0 g f A1 n1 c1 A2 n2 c2 i' j' t' v acc u ofs (W1.setRow f (vv t')) := by
  have b1 := blk_kept S.bf o1.keep S.ne
  have r1 := S.rt.only S.pv (by decide) o1.keep
  have u1 : RI w0 W1 u ofs := Kd.R_mono (Kd.R_kept (Kd.R_far1 S.ru rfl (Kd.R_ne S.ru S.pv (by decide))) o1.keep (fun _ hk => hk.2)) (fun _ _ => trivial)
  have B1 := o1.out S.below S.below.size S.hg
  refine ⟨(setRow_other W1 f g _ S.ne.symm).trans p1, setRow_heap W1 f _ _ _ _ b1, r1.row b1 (by decide) _, ?_, S.hg, S.hf, S.ne, below_setRow B1 S.hf _⟩
  exact Kd.R_mono (Kd.R_kept (Kd.R_far1 u1 rfl (Kd.R_ne u1 b1 (by decide))) (S := fun k => k = f) ⟨by simp, fun i _ hi => setRow_other W1 f i _ hi⟩ (fun _ hk => hk.2)) (fun _ _ => trivial)
theorem Zs.blk (S : Zs w0 g f A1 n1 c1 A2 n2 c2 i j t v acc u ofs W) (o1 : Only g W W1) : W1.heap[f]? = some (.cells (vv t) 70 (0, 0)) := blk_kept S.bf o1.keep S.ne
theorem msz {n : Nat} (S : Zs w0 g f A1 n1 c1 A2 n2 c2 i j t v acc u ofs W) : ms g n W = ((n : Int) - i - j).toNat := ms_row S.pv
end
theorem one_C63 {W : World} {g : Nat} (x : S63) {t : TypeId} (h : W.heap[g]? = some (.cells #[.int .i64 x.f0, .int .i64 x.f1] t (0, 0))) : Kd.C k63 W (some ⟨g, 0, none⟩) 1 [x] := by
  refine ⟨rfl, by omega, fun _ => ⟨_, rfl, fun j p hj => ?_⟩⟩
  match j, hj with
  | 0, hj =>
    simp at hj; subst hj
    refine ⟨_, rfl, k63_mk W x, fun i u hi => ?_⟩
    match i, hi with
    | 0, hi => simp at hi; subst hi; exact (blk_cell h 0).trans rfl
    | 1, hi => simp at hi; subst hi; exact (blk_cell h 1).trans rfl
theorem one_CI {W : World} {g : Nat} (x : Int) {t : TypeId} (h : W.heap[g]? = some (.cells #[.int .i64 x] t (0, 0))) : Kd.C kI W (some ⟨g, 0, none⟩) 1 [x] := by
  refine ⟨rfl, by omega, fun _ => ⟨_, rfl, fun j p hj => ?_⟩⟩
  match j, hj with
  | 0, hj =>
    simp at hj; subst hj
    refine ⟨[.int .i64 x], rfl, rfl, fun i u hi => ?_⟩
    match i, hi with
    | 0, hi => simp at hi; subst hi; exact (blk_cell h 0).trans rfl
set_option maxHeartbeats 8000000 in
set_option maxRecDepth 100000 in
theorem c36 (l1 l2 : List S63) (A1 : Option Addr) (c1 : Nat) (A2 : Option Addr) (c2 : Nat) (w : World) (n1 n2 : Nat) (hn1 : l1.length = n1) (hn2 : l2.length = n2) (hc1 : Kd.C k63 w A1 n1 l1) (hc2 : Kd.C k63 w A2 n2 l2)
    (hl1 : n1 ≤ 4000000) (hl2 : n2 ≤ 4000000) :
    Calls Try.prog 36 #[.slice A1 n1 c1, .slice A2 n2 c2] w fun e w' => ∃ (v u : Value) (L : List S63) (O : List Int), e = .returned (.tuple #[v, u]) ∧ RT w w' v L ∧ RI w w' u O ∧ L.map sp = (PL l1 l2 0 0).map (·.1) ∧ O = (PL l1 l2 0 0).map (fun p => (p.2 : Int)) ∧ Below w.heap.size w w' := by
  obtain ⟨R1, hR1⟩ : ∃ R, (PL l1 l2 0 0).map (·.1) = R := ⟨_, rfl⟩
  obtain ⟨R2, hR2⟩ : ∃ R, (PL l1 l2 0 0).map (fun p => (p.2 : Int)) = R := ⟨_, rfl⟩
  rw [hR1, hR2]
  have H := Lib.hid (And.intro hl1 (And.intro hl2 (And.intro hn1 (And.intro hn2 (And.intro hR1 hR2)))))
  have K1 : Hid (∀ W, Below w.heap.size w W → Kd.C k63 W A1 n1 l1) := Lib.hid (fun W hb => Kd.C_below hc1 hb)
  have K2 : Hid (∀ W, Below w.heap.size w W → Kd.C k63 W A2 n2 l2) := Lib.hid (fun W hb => Kd.C_below hc2 hb)
  clear hR1 hR2 hn1 hn2 hc1 hc2 hl1 hl2
  go_enter Try.func36, Try.ntmps36
  go_upto_region 2 with (fail)
  have b0 : (w.alloc (Obj.cells #[.int .i64 0, .int .i64 0, .int .i64 0, .int .i64 0, .int .i64 0, .slice none 0 0, .slice none 0 0] 72)).heap[w.heap.size]? = some (.cells (pvRow 0 0 0 0 0 none 0 0 none 0 0) 72 (0, 0)) := blk_new w _
  have B0 : Below w.heap.size w (w.alloc (Obj.cells #[.int .i64 0, .int .i64 0, .int .i64 0, .int .i64 0, .int .i64 0, .slice none 0 0, .slice none 0 0] 72)) := (Below.refl _ _).alloc (Nat.le_refl _) _
  generalize w.alloc _ = W0 at *
  obtain ⟨hl1, hl2, hn1, hn2, _, _⟩ := H.out
  have H42 := Lib.hid (c42n w.heap.size n1 n2 l1 l2 hn1 hn2 A1 c1 A2 c2 W0 b0 (fun W ho => K1.out W (ho.out B0 B0.size (Nat.le_refl _))) (fun W ho => K2.out W (ho.out B0 B0.size (Nat.le_refl _))))
  have HB0 := Lib.hid B0
  obtain ⟨t, ht⟩ : ∃ t, sv l1 l2 0 0 = t := ⟨_, rfl⟩
  rw [ht] at H42
  have HT := Lib.hid ht
  clear b0 B0 hl1 hl2 hn1 hn2 ht
  go_wp2_with (first
    | (go_at_call 42; refine H42.out.mono ?_; rintro e W1 ⟨rfl, p1, o1⟩; have B1 := o1.out HB0.out HB0.out.size (Nat.le_refl _); clear H42)
    | ((with_reducible refine gate_dst (N := 7) rfl ?_); refine box_event ?hg (N := 7) ?hd (cs := #[.int .i64 0, .int .i64 0, .int .i64 0]) (t := 70) ?hr ?_; (case hd => rfl); (case hg => rfl); (case hr => first | (go_simp; done) | (go_simp; rfl)); intro f ef W2 kf hb2; have p2 := blk_below p1 hb2; have B2 := B1.trans (hb2.mono B1.size); have hf : w.heap.size ≤ f := (by rw [ef]; exact B1.size); have ne : f ≠ w.heap.size := (by rw [ef]; exact (Nat.ne_of_lt (blk_lt p1)).symm); clear ef)
    | (refine wpList_store_row rfl 70 (.tmp 7) _ rfl f (vv t) rfl rfl 70 _ kf (by kernel_rfl) rfl (by simp [Value.oneCell']) ?_; have S3 : Zs w w.heap.size f A1 n1 c1 A2 n2 c2 0 0 t (.slice none 0 0) [] (.slice none 0 0) [] (W2.setRow f (vv t)) := ⟨(setRow_other W2 f w.heap.size (vv t) ne.symm).trans p2, setRow_heap W2 f _ (vv t) _ _ kf, Kd.R_nil k63 63 _ w.heap.size (fun _ => True), Kd.R_nil kI 3 _ w.heap.size (fun _ => True), Nat.le_refl _, hf, ne, below_setRow B2 hf _⟩; clear p1 p2 o1 B1 B2 hb2 kf))
  generalize W2.setRow f _ = W3 at *
  clear HB0 hf ne
  generalize w.heap.size = g at S3 ⊢
  simp only [Act.put, List.setIfInBounds_toArray, List.set_cons_succ, List.set_cons_zero]
  go_loopw [4, 5, 7] (fun v u x7 wr => ∃ (i j f : Nat) (t : Int × Int × Int) (acc : List S63) (ofs : List Int), x7 = .pointer (some ⟨f, 0, none⟩) ∧ Zs w g f A1 n1 c1 A2 n2 c2 i j t v acc u ofs wr ∧ sv l1 l2 i j = t ∧ i ≤ n1 ∧ j ≤ n2 ∧ acc.length ≤ i + j ∧ ofs.length ≤ i + j ∧ R1 = acc.map sp ++ (PL l1 l2 i j).map (·.1) ∧ R2 = ofs ++ (PL l1 l2 i j).map (fun p => (p.2 : Int))) (fun _ _ _ wr => ms g (n1 + n2) wr)
  case atStart => exact ⟨0, 0, f, t, [], [], rfl, S3, HT.out, Nat.zero_le _, Nat.zero_le _, Nat.le_refl _, Nat.le_refl _, H.out.2.2.2.2.1.symm, H.out.2.2.2.2.2.symm⟩
  case round =>
    clear S3 HT
    obtain ⟨i, j, f, t, acc, ofs, rfl, S, ht, hi, hj, hacc, hofs, hr1, hr2⟩ := hrel
    obtain ⟨hl1, hl2, hn1, hn2, _, _⟩ := H.out
    have hu70 := Try.underlying70
    have hu63 := Try.underlying63
    rcases step2 l1 l2 n1 n2 hn1 hn2 i j hi hj with ⟨hs, hP⟩ | ⟨q, k, hk, hq, hni, hnj, hs, hP⟩
    · rw [hs] at ht
      subst ht
      rw [hP] at hr1 hr2
      have HR := Lib.hid (And.intro hr1 hr2)
      clear hr1 hr2 hP hs hl1 hl2 hn1 hn2 hi hj hacc hofs
      go_wp2_with (first
        | (refine wpList_load_mid rfl 70 (.tmp 7) rfl f 0 rfl [.int .i64 0, .int .i64 0, .int .i64 (-1)] _ (range3 S.bf _ _ _ rfl rfl rfl) hu70 rfl (by kernel_rfl) ?_)
        | (go_at_call 44; refine (intervals_intWithIdx_done.calls 0 0 (-1) true _ rfl).mono ?_; rintro e W4 ⟨rfl, hb⟩; have T := S.call hb; clear S hb))
      refine bodyPost_ret (v := .tuple #[u4, u5]) (by simp [results, Try.results36, go_sem]) rfl ⟨u4, u5, acc, ofs, rfl, T.rt, T.ru, ?_, ?_, T.below⟩
      · rw [HR.out.1]; simp
      · rw [HR.out.2]; simp
    · rw [hs] at ht
      subst ht
      have HK := Lib.hid (And.intro hk (And.intro hni (And.intro hnj (And.intro hi (And.intro hj (And.intro hacc hofs))))))
      have HP := Lib.hid hP
      have HR := Lib.hid (And.intro hr1 hr2)
      have HL1 : Hid ((acc.length + 1) * 16 ≤ 140737488355328) := Lib.hid (by omega)
      have HL2 : Hid ((ofs.length + 1) * 8 ≤ 140737488355328) := Lib.hid (by omega)
      have HD : Hid (∀ W, Calls Try.prog 44 #[.agg #[.int .i64 q.1, .int .i64 q.2, .int .i64 (k : Int)]] W fun e w' => e = .returned (.bool false) ∧ Below W.heap.size W w') := Lib.hid (fun W => intervals_intWithIdx_done.calls _ _ _ false W (congrArg some (beq_false_of_ne (by omega))))
      have key : ∀ W v' acc' u' ofs' f' (_ : Zs w g f' A1 n1 c1 A2 n2 c2 i j (q.1, q.2, (k : Int)) v' acc' u' ofs' W) s, sv l1 l2 (nI k i : Nat) (nJ k j : Nat) = s → Calls Try.prog 43 #[.pointer (some ⟨g, 0, none⟩)] W fun e w' => e = .returned (.agg (vv s)) ∧ w'.heap[g]? = some (.cells (pvRow s.1 s.2.1 s.2.2 (nI k i : Nat) (nJ k j : Nat) A1 n1 c1 A2 n2 c2) 72 (0, 0)) ∧ Only g W w' :=
        fun W v' acc' u' ofs' f' S' s hs => c43n g n1 n2 q.1 q.2 k i j l1 l2 hn1 hn2 hl1 hl2 hk hi hj A1 c1 A2 c2 W S'.pv (fun W ho => K1.out W (ho.out S'.below S'.below.size S'.hg)) (fun W ho => K2.out W (ho.out S'.below S'.below.size S'.hg)) s hs
      have HKey := Lib.hid key
      clear key hs hP hr1 hr2 hl1 hl2 hn1 hn2 hi hj hacc hofs hk hq hni hnj H
      go_upto_region 5 with (first
        | (refine wpList_load_mid rfl 70 (.tmp 7) rfl f 0 rfl [.int .i64 q.1, .int .i64 q.2, .int .i64 (k : Int)] _ (range3 S.bf _ _ _ rfl rfl rfl) hu70 rfl (by kernel_rfl) ?_)
        | (go_at_call 44; refine (HD.out _).mono ?_; rintro e W4 ⟨rfl, hb⟩; have T := S.call hb; clear hb))
      have HM := Lib.hid (msz (n := n1 + n2) S)
      have Td := T.call (below_drew1 (Below.refl W4.heap.size W4))
      clear T S
      refine start_ (n := 12) (S := fun w' => w'.cell? ⟨f, 0, none⟩ = some (.int .i64 q.1) ∧ w'.cell? ⟨f, 1, none⟩ = some (.int .i64 q.2) ∧ w'.cell? ⟨f, 2, none⟩ = some (.int .i64 (k : Int))) (ds := []) #[false, false, false, false, false, false, false, false, false, false, false, false] (by kernel_rfl) rfl rfl Td.cells (fun hHeld => ?_)
      generalize W4.drew = V0 at *
      refine pure_ (i := 0) (N := some 15) (v := ?_) (a' := ?_) #[true, false, false, false, false, false, false, false, false, false, false, false] rfl rfl (by kernel_rfl) (fun _ _ _ h => h) (Or.inl ⟨by rfl, ?_⟩) ?_ ?_
      rotate_left
      · intro w'
        go_simp
        first | done | with_reducible rfl | rfl
      rotate_left
      · simp only [Act.put, List.setIfInBounds_toArray, List.set_cons_zero, List.set_cons_succ, i64_w, i32_w]
        rfl
      refine pure_ (i := 1) (N := some 16) (v := ?_) (a' := ?_) #[true, true, false, false, false, false, false, false, false, false, false, false] rfl rfl (by kernel_rfl) (fun _ _ _ h => h) (Or.inl ⟨by rfl, ?_⟩) ?_ ?_
      rotate_left
      · intro w'
        go_simp
        first | done | with_reducible rfl | rfl
      rotate_left
      · simp only [Act.put, List.setIfInBounds_toArray, List.set_cons_zero, List.set_cons_succ, i64_w, i32_w]
        rfl
      refine take_ (i := 2) (N := some 17) (v := ?_) (a' := ?_) #[true, true, true, false, false, false, false, false, false, false, false, false] rfl rfl (by kernel_rfl) (fun _ _ _ h => h) (Or.inl ⟨by rfl, ?_⟩) hHeld ?_ ?_
      rotate_left
      · rintro w' ⟨s0, s1, s2⟩
        go_simp
        with_reducible rfl
      rotate_left
      · simp only [Act.put, List.setIfInBounds_toArray, List.set_cons_zero, List.set_cons_succ, i64_w, i32_w]
        rfl
      refine pure_ (i := 5) (N := some 20) (v := ?_) (a' := ?_) #[true, true, true, false, false, true, false, false, false, false, false, false] rfl rfl (by kernel_rfl) (fun _ _ _ h => h) (Or.inl ⟨by rfl, ?_⟩) ?_ ?_
      rotate_left
      · intro w'
        go_simp
        first | done | with_reducible rfl | rfl
      rotate_left
      · simp only [Act.put, List.setIfInBounds_toArray, List.set_cons_zero, List.set_cons_succ, i64_w, i32_w]
        rfl
      refine pure_ (i := 6) (N := some 21) (v := ?_) (a' := ?_) #[true, true, true, false, false, true, true, false, false, false, false, false] rfl rfl (by kernel_rfl) (fun _ _ _ h => h) (Or.inl ⟨by rfl, ?_⟩) ?_ ?_
      rotate_left
      · intro w'
        go_simp
        first | done | with_reducible rfl | rfl
      rotate_left
      · simp only [Act.put, List.setIfInBounds_toArray, List.set_cons_zero, List.set_cons_succ, i64_w, i32_w]
        rfl
      refine take_ (i := 7) (N := some 22) (v := ?_) (a' := ?_) #[true, true, true, false, false, true, true, true, false, false, false, false] rfl rfl (by kernel_rfl) (fun _ _ _ h => h) (Or.inl ⟨by rfl, ?_⟩) hHeld ?_ ?_
      rotate_left
      · rintro w' ⟨s0, s1, s2⟩
        go_simp
        with_reducible rfl
      rotate_left
      · simp only [Act.put, List.setIfInBounds_toArray, List.set_cons_zero, List.set_cons_succ, i64_w, i32_w]
        rfl
      refine join_ (σ := Value × Value × Value × Value) 0 #[true, true, true, true, true, true, true, true, true, true, true, true] (fun s => [(18, s.1), (19, s.2.1), (23, s.2.2.1), (24, s.2.2.2), (4, s.2.1), (5, s.2.2.2)]) (fun s w' => Zs w g f A1 n1 c1 A2 n2 c2 i j (q.1, q.2, (k : Int)) s.2.1 (acc ++ [⟨q.1, q.2⟩]) s.2.2.2 (ofs ++ [(k : Int)]) w') ?cont ?walk
      case walk =>
        intro hc
        refine two_ (i := 3) (j := 8) (Ni := some 18) (Nj := some 23) #[true, true, true, true, false, true, true, true, false, false, false, false] #[true, true, true, false, false, true, true, true, true, false, false, false] rfl rfl rfl rfl (by kernel_rfl) (by decide) (by decide) (fun K hK => ?_) (fun K hK => ?_)
        · refine val_ (v := .slice (some ⟨V0.heap.size, 0, none⟩) 1 1) (w1 := V0.alloc (.cells #[.int .i64 q.1, .int .i64 q.2] 63)) (by rfl) rfl (by go_simp; first | done | rfl) ?_
          have X1 := blk_new V0 (.cells #[.int .i64 q.1, .int .i64 q.2] 63)
          have Z1 := Td.call ((Below.refl V0.heap.size V0).alloc (Nat.le_refl _) (.cells #[.int .i64 q.1, .int .i64 q.2] 63))
          clear Td hHeld
          generalize V0.alloc _ = V1 at *
          generalize V0.heap.size = b1 at *
          refine hK.out _ _ Z1.cells (fun hHeld => ?_)
          clear hK K
          refine norm_ (a' := ?_) ?_ ?_
          rotate_left
          · show Act.put _ (some 18) _ = _
            simp only [Act.put, List.setIfInBounds_toArray, List.set_cons_zero, List.set_cons_succ, i64_w, i32_w]
            rfl
          refine two_ (i := 4) (j := 8) (Ni := some 19) (Nj := some 23) #[true, true, true, true, true, true, true, true, false, false, false, false] #[true, true, true, true, false, true, true, true, true, false, false, false] rfl rfl rfl rfl (by kernel_rfl) (by decide) (by decide) (fun K hK => ?_) (fun K hK => ?_)
          · refine Kd.R_append_rows_step k63 (Rr := k63.K V1) (w0 := w) w.heap.size (by rfl) (.tmp 15) (.tmp 18) 48 63 (.agg #[(.int .i64 0), (.int .i64 0)]) 16 rfl Try.underlying48 info63 rfl (by decide) (by omega) u4 acc [⟨q.1, q.2⟩] (some ⟨b1, 0, none⟩) 1 1 (fun _ => True) (fun _ => False) rfl rfl Z1.rt (one_C63 ⟨q.1, q.2⟩ X1) (fun x cs h => k63_KM _ _ _ x cs h) (fun _ hk => hk.elim) (fun _ _ => trivial) Z1.below Z1.below.size HL1.out ?_
            intro v1 V2 ho hb hgr _
            have Z2 := Z1.grow1 hgr hb ho
            clear Z1 hHeld hgr hb ho X1
            refine hK.out _ _ Z2.cells (fun hHeld => ?_)
            clear hK K
            refine norm_ (a' := ?_) ?_ ?_
            rotate_left
            · show Act.put _ (some 19) _ = _
              simp only [Act.put, List.setIfInBounds_toArray, List.set_cons_zero, List.set_cons_succ, i64_w, i32_w]
              rfl
            refine one_ (i := 8) (N := some 23) #[true, true, true, true, true, true, true, true, true, false, false, false] rfl rfl (by kernel_rfl) (by decide) (fun K hK => ?_)
            refine val_ (v := .slice (some ⟨V2.heap.size, 0, none⟩) 1 1) (w1 := V2.alloc (.cells #[.int .i64 (k : Int)] 3)) (by rfl) rfl (by go_simp; first | done | rfl) ?_
            have X2 := blk_new V2 (.cells #[.int .i64 (k : Int)] 3)
            have Z3 := Z2.call ((Below.refl V2.heap.size V2).alloc (Nat.le_refl _) (.cells #[.int .i64 (k : Int)] 3))
            clear Z2 hHeld
            generalize V2.alloc _ = V3 at *
            generalize V2.heap.size = b2 at *
            refine hK.out _ _ Z3.cells (fun hHeld => ?_)
            clear hK K
            refine norm_ (a' := ?_) ?_ ?_
            rotate_left
            · show Act.put _ (some 23) _ = _
              simp only [Act.put, List.setIfInBounds_toArray, List.set_cons_zero, List.set_cons_succ, i64_w, i32_w]
              rfl
            refine one_ (i := 9) (N := some 24) #[true, true, true, true, true, true, true, true, true, true, false, false] rfl rfl (by kernel_rfl) (by decide) (fun K hK => ?_)
            refine Kd.R_append_rows_step kI (Rr := kI.K V3) (w0 := w) w.heap.size (by rfl) (.tmp 20) (.tmp 23) 35 3 (.int .i64 0) 8 rfl Try.underlying35 info3 rfl (by decide) (by omega) u5 ofs [(k : Int)] (some ⟨b2, 0, none⟩) 1 1 (fun _ => True) (fun _ => False) rfl rfl Z3.ru (one_CI (k : Int) X2) (fun x cs h => kI_KM _ _ _ x cs h) (fun _ hk => hk.elim) (fun _ _ => trivial) Z3.below Z3.below.size HL2.out ?_
            intro v2 V4 ho hb hgr _
            have Z4 := Z3.grow2 hgr hb ho
            clear Z3 hHeld hgr hb ho X2
            refine hK.out _ _ Z4.cells (fun hHeld => ?_)
            clear hK K
            refine norm_ (a' := ?_) ?_ ?_
            rotate_left
            · show Act.put _ (some 24) _ = _
              simp only [Act.put, List.setIfInBounds_toArray, List.set_cons_zero, List.set_cons_succ, i64_w, i32_w]
              rfl
            refine pure_ (i := 10) (N := some 4) (v := ?_) (a' := ?_) #[true, true, true, true, true, true, true, true, true, true, true, false] rfl rfl (by kernel_rfl) (fun _ _ _ h => h) (Or.inl ⟨by rfl, ?_⟩) ?_ ?_
            rotate_left
            · intro w'
              go_simp
              first | done | with_reducible rfl | rfl
            rotate_left
            · simp only [Act.put, List.setIfInBounds_toArray, List.set_cons_zero, List.set_cons_succ, i64_w, i32_w]
              rfl
            refine pure_ (i := 11) (N := some 5) (v := ?_) (a' := ?_) #[true, true, true, true, true, true, true, true, true, true, true, true] rfl rfl (by kernel_rfl) (fun _ _ _ h => h) (Or.inl ⟨by rfl, ?_⟩) ?_ ?_
            rotate_left
            · intro w'
              go_simp
              first | done | with_reducible rfl | rfl
            rotate_left
            · simp only [Act.put, List.setIfInBounds_toArray, List.set_cons_zero, List.set_cons_succ, i64_w, i32_w]
              rfl
            have hz := hc (.slice (some ⟨b1, 0, none⟩) 1 1, v1, .slice (some ⟨b2, 0, none⟩) 1 1, v2) _ Z4
            simp only [putAll, Act.put, List.setIfInBounds_toArray, List.set_cons_zero, List.set_cons_succ] at hz
            exact hz
          · refine val_ (v := .slice (some ⟨V1.heap.size, 0, none⟩) 1 1) (w1 := V1.alloc (.cells #[.int .i64 (k : Int)] 3)) (by rfl) rfl (by go_simp; first | done | rfl) ?_
            have X2 := blk_new V1 (.cells #[.int .i64 (k : Int)] 3)
            have Z5 := Z1.call ((Below.refl V1.heap.size V1).alloc (Nat.le_refl _) (.cells #[.int .i64 (k : Int)] 3))
            have X1' := blk_alloc X1 (.cells #[.int .i64 (k : Int)] 3)
            clear X1
            have X1 := X1'
            clear X1'
            clear Z1 hHeld
            generalize V1.alloc _ = V5 at *
            generalize V1.heap.size = b2 at *
            refine hK.out _ _ Z5.cells (fun hHeld => ?_)
            clear hK K
            refine norm_ (a' := ?_) ?_ ?_
            rotate_left
            · show Act.put _ (some 23) _ = _
              simp only [Act.put, List.setIfInBounds_toArray, List.set_cons_zero, List.set_cons_succ, i64_w, i32_w]
              rfl
            refine one_ (i := 4) (N := some 19) #[true, true, true, true, true, true, true, true, true, false, false, false] rfl rfl (by kernel_rfl) (by decide) (fun K hK => ?_)
            refine Kd.R_append_rows_step k63 (Rr := k63.K V5) (w0 := w) w.heap.size (by rfl) (.tmp 15) (.tmp 18) 48 63 (.agg #[(.int .i64 0), (.int .i64 0)]) 16 rfl Try.underlying48 info63 rfl (by decide) (by omega) u4 acc [⟨q.1, q.2⟩] (some ⟨b1, 0, none⟩) 1 1 (fun _ => True) (fun _ => False) rfl rfl Z5.rt (one_C63 ⟨q.1, q.2⟩ X1) (fun x cs h => k63_KM _ _ _ x cs h) (fun _ hk => hk.elim) (fun _ _ => trivial) Z5.below Z5.below.size HL1.out ?_
            intro v1 V6 ho hb hgr _
            have Z6 := Z5.grow1 hgr hb ho
            have X2' := blk_grown X2 hgr (Kd.R_ne Z5.rt X2 (by decide))
            clear X2
            have X2 := X2'
            clear X2'
            clear Z5 hHeld hgr hb ho X1
            refine hK.out _ _ Z6.cells (fun hHeld => ?_)
            clear hK K
            refine norm_ (a' := ?_) ?_ ?_
            rotate_left
            · show Act.put _ (some 19) _ = _
              simp only [Act.put, List.setIfInBounds_toArray, List.set_cons_zero, List.set_cons_succ, i64_w, i32_w]
              rfl
            refine one_ (i := 9) (N := some 24) #[true, true, true, true, true, true, true, true, true, true, false, false] rfl rfl (by kernel_rfl) (by decide) (fun K hK => ?_)
            refine Kd.R_append_rows_step kI (Rr := kI.K V6) (w0 := w) w.heap.size (by rfl) (.tmp 20) (.tmp 23) 35 3 (.int .i64 0) 8 rfl Try.underlying35 info3 rfl (by decide) (by omega) u5 ofs [(k : Int)] (some ⟨b2, 0, none⟩) 1 1 (fun _ => True) (fun _ => False) rfl rfl Z6.ru (one_CI (k : Int) X2) (fun x cs h => kI_KM _ _ _ x cs h) (fun _ hk => hk.elim) (fun _ _ => trivial) Z6.below Z6.below.size HL2.out ?_
            intro v2 V7 ho hb hgr _
            have Z7 := Z6.grow2 hgr hb ho
            clear Z6 hHeld hgr hb ho X2
            refine hK.out _ _ Z7.cells (fun hHeld => ?_)
            clear hK K
            refine norm_ (a' := ?_) ?_ ?_
            rotate_left
            · show Act.put _ (some 24) _ = _
              simp only [Act.put, List.setIfInBounds_toArray, List.set_cons_zero, List.set_cons_succ, i64_w, i32_w]
              rfl
            refine pure_ (i := 10) (N := some 4) (v := ?_) (a' := ?_) #[true, true, true, true, true, true, true, true, true, true, true, false] rfl rfl (by kernel_rfl) (fun _ _ _ h => h) (Or.inl ⟨by rfl, ?_⟩) ?_ ?_
            rotate_left
            · intro w'
              go_simp
              first | done | with_reducible rfl | rfl
            rotate_left
            · simp only [Act.put, List.setIfInBounds_toArray, List.set_cons_zero, List.set_cons_succ, i64_w, i32_w]
              rfl
            refine pure_ (i := 11) (N := some 5) (v := ?_) (a' := ?_) #[true, true, true, true, true, true, true, true, true, true, true, true] rfl rfl (by kernel_rfl) (fun _ _ _ h => h) (Or.inl ⟨by rfl, ?_⟩) ?_ ?_
            rotate_left
            · intro w'
              go_simp
              first | done | with_reducible rfl | rfl
            rotate_left
            · simp only [Act.put, List.setIfInBounds_toArray, List.set_cons_zero, List.set_cons_succ, i64_w, i32_w]
              rfl
            have hz := hc (.slice (some ⟨b1, 0, none⟩) 1 1, v1, .slice (some ⟨b2, 0, none⟩) 1 1, v2) _ Z7
            simp only [putAll, Act.put, List.setIfInBounds_toArray, List.set_cons_zero, List.set_cons_succ] at hz
            exact hz
        · refine val_ (v := .slice (some ⟨V0.heap.size, 0, none⟩) 1 1) (w1 := V0.alloc (.cells #[.int .i64 (k : Int)] 3)) (by rfl) rfl (by go_simp; first | done | rfl) ?_
          have X2 := blk_new V0 (.cells #[.int .i64 (k : Int)] 3)
          have Z8 := Td.call ((Below.refl V0.heap.size V0).alloc (Nat.le_refl _) (.cells #[.int .i64 (k : Int)] 3))
          clear Td hHeld
          generalize V0.alloc _ = V8 at *
          generalize V0.heap.size = b2 at *
          refine hK.out _ _ Z8.cells (fun hHeld => ?_)
          clear hK K
          refine norm_ (a' := ?_) ?_ ?_
          rotate_left
          · show Act.put _ (some 23) _ = _
            simp only [Act.put, List.setIfInBounds_toArray, List.set_cons_zero, List.set_cons_succ, i64_w, i32_w]
            rfl
          refine one_ (i := 3) (N := some 18) #[true, true, true, true, false, true, true, true, true, false, false, false] rfl rfl (by kernel_rfl) (by decide) (fun K hK => ?_)
          refine val_ (v := .slice (some ⟨V8.heap.size, 0, none⟩) 1 1) (w1 := V8.alloc (.cells #[.int .i64 q.1, .int .i64 q.2] 63)) (by rfl) rfl (by go_simp; first | done | rfl) ?_
          have X1 := blk_new V8 (.cells #[.int .i64 q.1, .int .i64 q.2] 63)
          have Z9 := Z8.call ((Below.refl V8.heap.size V8).alloc (Nat.le_refl _) (.cells #[.int .i64 q.1, .int .i64 q.2] 63))
          have X2' := blk_alloc X2 (.cells #[.int .i64 q.1, .int .i64 q.2] 63)
          clear X2
          have X2 := X2'
          clear X2'
          clear Z8 hHeld
          generalize V8.alloc _ = V9 at *
          generalize V8.heap.size = b1 at *
          refine hK.out _ _ Z9.cells (fun hHeld => ?_)
          clear hK K
          refine norm_ (a' := ?_) ?_ ?_
          rotate_left
          · show Act.put _ (some 18) _ = _
            simp only [Act.put, List.setIfInBounds_toArray, List.set_cons_zero, List.set_cons_succ, i64_w, i32_w]
            rfl
          refine one_ (i := 4) (N := some 19) #[true, true, true, true, true, true, true, true, true, false, false, false] rfl rfl (by kernel_rfl) (by decide) (fun K hK => ?_)
          refine Kd.R_append_rows_step k63 (Rr := k63.K V9) (w0 := w) w.heap.size (by rfl) (.tmp 15) (.tmp 18) 48 63 (.agg #[(.int .i64 0), (.int .i64 0)]) 16 rfl Try.underlying48 info63 rfl (by decide) (by omega) u4 acc [⟨q.1, q.2⟩] (some ⟨b1, 0, none⟩) 1 1 (fun _ => True) (fun _ => False) rfl rfl Z9.rt (one_C63 ⟨q.1, q.2⟩ X1) (fun x cs h => k63_KM _ _ _ x cs h) (fun _ hk => hk.elim) (fun _ _ => trivial) Z9.below Z9.below.size HL1.out ?_
          intro v1 V10 ho hb hgr _
          have Z10 := Z9.grow1 hgr hb ho
          have X2' := blk_grown X2 hgr (Kd.R_ne Z9.rt X2 (by decide))
          clear X2
          have X2 := X2'
          clear X2'
          clear Z9 hHeld hgr hb ho X1
          refine hK.out _ _ Z10.cells (fun hHeld => ?_)
          clear hK K
          refine norm_ (a' := ?_) ?_ ?_
          rotate_left
          · show Act.put _ (some 19) _ = _
            simp only [Act.put, List.setIfInBounds_toArray, List.set_cons_zero, List.set_cons_succ, i64_w, i32_w]
            rfl
          refine one_ (i := 9) (N := some 24) #[true, true, true, true, true, true, true, true, true, true, false, false] rfl rfl (by kernel_rfl) (by decide) (fun K hK => ?_)
          refine Kd.R_append_rows_step kI (Rr := kI.K V10) (w0 := w) w.heap.size (by rfl) (.tmp 20) (.tmp 23) 35 3 (.int .i64 0) 8 rfl Try.underlying35 info3 rfl (by decide) (by omega) u5 ofs [(k : Int)] (some ⟨b2, 0, none⟩) 1 1 (fun _ => True) (fun _ => False) rfl rfl Z10.ru (one_CI (k : Int) X2) (fun x cs h => kI_KM _ _ _ x cs h) (fun _ hk => hk.elim) (fun _ _ => trivial) Z10.below Z10.below.size HL2.out ?_
          intro v2 V11 ho hb hgr _
          have Z11 := Z10.grow2 hgr hb ho
          clear Z10 hHeld hgr hb ho X2
          refine hK.out _ _ Z11.cells (fun hHeld => ?_)
          clear hK K
          refine norm_ (a' := ?_) ?_ ?_
          rotate_left
          · show Act.put _ (some 24) _ = _
            simp only [Act.put, List.setIfInBounds_toArray, List.set_cons_zero, List.set_cons_succ, i64_w, i32_w]
            rfl
          refine pure_ (i := 10) (N := some 4) (v := ?_) (a' := ?_) #[true, true, true, true, true, true, true, true, true, true, true, false] rfl rfl (by kernel_rfl) (fun _ _ _ h => h) (Or.inl ⟨by rfl, ?_⟩) ?_ ?_
          rotate_left
          · intro w'
            go_simp
            first | done | with_reducible rfl | rfl
          rotate_left
          · simp only [Act.put, List.setIfInBounds_toArray, List.set_cons_zero, List.set_cons_succ, i64_w, i32_w]
            rfl
          refine pure_ (i := 11) (N := some 5) (v := ?_) (a' := ?_) #[true, true, true, true, true, true, true, true, true, true, true, true] rfl rfl (by kernel_rfl) (fun _ _ _ h => h) (Or.inl ⟨by rfl, ?_⟩) ?_ ?_
          rotate_left
          · intro w'
            go_simp
            first | done | with_reducible rfl | rfl
          rotate_left
          · simp only [Act.put, List.setIfInBounds_toArray, List.set_cons_zero, List.set_cons_succ, i64_w, i32_w]
            rfl
          have hz := hc (.slice (some ⟨b1, 0, none⟩) 1 1, v1, .slice (some ⟨b2, 0, none⟩) 1 1, v2) _ Z11
          simp only [putAll, Act.put, List.setIfInBounds_toArray, List.set_cons_zero, List.set_cons_succ] at hz
          exact hz
      case cont =>
        rintro ⟨b1, v1, b2, v2⟩ V6 Z6
        clear Td hHeld
        simp only [putAll, Act.put, List.setIfInBounds_toArray, List.set_cons_zero, List.set_cons_succ]
        refine done_ (by kernel_rfl) ?_
        obtain ⟨s, hs⟩ : ∃ s, sv l1 l2 (nI k i : Nat) (nJ k j : Nat) = s := ⟨_, rfl⟩
        have HS := Lib.hid hs
        clear hs
        go_wp2_with (first
          | (refine wpList_load_mid rfl 70 (.tmp 7) rfl f 0 rfl [.int .i64 q.1, .int .i64 q.2, .int .i64 (k : Int)] _ (range3 Z6.bf _ _ _ rfl rfl rfl) hu70 rfl (by kernel_rfl) ?_)
          | ((with_reducible refine gate_dst (N := 7) rfl ?_); refine box_event ?hg (N := 7) ?hd (cs := #[.int .i64 0, .int .i64 0, .int .i64 0]) (t := 70) ?hr ?_; (case hd => rfl); (case hg => rfl); (case hr => first | (go_simp; done) | (go_simp; rfl)); intro f2 ef V7 kf hb2; have Z7 := Z6.fresh hb2 ef kf; clear ef hb2)
          | (refine wpList_store_row rfl 70 (.tmp 7) _ rfl f2 (vv (q.1, q.2, (k : Int))) rfl rfl 70 _ kf (by kernel_rfl) rfl (by simp [Value.oneCell']) ?_; clear kf)
          | (go_at_call 43; refine (HKey.out _ _ _ _ _ _ Z7 _ HS.out).mono ?_; rintro e V8 ⟨rfl, p8, o8⟩; have b8 := Z7.blk o8; have Z8 := Z7.nxt o8 p8)
          | (refine wpList_store_row rfl 70 (.tmp 7) _ rfl f2 (vv s) rfl rfl 70 _ b8 (by kernel_rfl) rfl (by simp [Value.oneCell']) ?_; clear b8 p8 o8))
        simp only [Act.put, List.setIfInBounds_toArray, List.set_cons_succ, List.set_cons_zero]
        go_roundw
        case rel =>
          obtain ⟨hk, hni, hnj, hi, hj, hacc, hofs⟩ := HK.out
          have hsum := nI_nJ k i j
          refine ⟨nI k i, nJ k j, f2, s, acc ++ [⟨q.1, q.2⟩], ofs ++ [(k : Int)], rfl, Z8, HS.out, hni, hnj, ?_, ?_, ?_, ?_⟩
          · rw [List.length_append, List.length_singleton]; omega
          · rw [List.length_append, List.length_singleton]; omega
          · rw [HR.out.1, HP.out]; simp [sp]
          · rw [HR.out.2, HP.out]; simp
        case measure =>
          obtain ⟨hk, hni, hnj, hi, hj, hacc, hofs⟩ := HK.out
          have hsum := nI_nJ k i j
          rw [HM.out, msz (n := n1 + n2) Z8]; omega
end Go.Proofs.Ytmfffeoodlmnbaa.Zp
