/- Intervals.Overlaps of two sequences: what it returns. The walks. -/
import Derived.Test.YtmfffeoodlmnbaaVp
namespace Go.Proofs.Ytmfffeoodlmnbaa.Ov
set_option linter.unusedSimpArgs false
set_option linter.unusedVariables false
open Go.RowKit Go.Proofs.YtmfffeoodlmnbaaW.PrintWords Go.Proofs.YtmfffeoodlmnbaaW.PrintLast Go.Proofs.YtmfffeoodlmnbaaW.PrintMore Go.Proofs.Ytmfffeoodlmnbaa.Kit Go.Proofs.Ytmfffeoodlmnbaa.Sp Go.Proofs.Ytmfffeoodlmnbaa.Se Go.Proofs.Ytmfffeoodlmnbaa.In Go.Proofs.Ytmfffeoodlmnbaa.Iv Go.Proofs.Ytmfffeoodlmnbaa.Vp
/-- how far the visitor has still to go. -/
def ms (g n : Nat) (w : World) : Nat := match w.cell? ⟨g, 3, none⟩, w.cell? ⟨g, 4, none⟩ with
  | some (.int _ i), some (.int _ j) => (n - i - j).toNat
  | _, _ => 0
theorem ms_row {w : World} {g n : Nat} {a b p i j : Int} {A1 : Option Addr} {n1 c1 : Nat} {A2 : Option Addr} {n2 c2 : Nat} (h : w.heap[g]? = some (.cells (pvRow a b p i j A1 n1 c1 A2 n2 c2) 72 (0, 0))) : ms g n w = (n - i - j).toNat := by
  have h3 : w.cell? ⟨g, 3, none⟩ = some (.int .i64 i) := (blk_cell h 3).trans rfl
  have h4 : w.cell? ⟨g, 4, none⟩ = some (.int .i64 j) := (blk_cell h 4).trans rfl
  unfold ms; rw [h3, h4]
/-- the visitor at g, the last interval that it gave in block f. -/
structure St (w0 : World) (g f : Nat) (A1 : Option Addr) (n1 c1 : Nat) (A2 : Option Addr) (n2 c2 : Nat) (i j : Nat) (p : Int) (s t : Int × Int × Int) (W : World) : Prop where
  pv : W.heap[g]? = some (.cells (pvRow s.1 s.2.1 s.2.2 i j A1 n1 c1 A2 n2 c2) 72 (0, 0))
  bf : W.heap[f]? = some (.cells (vv t) 70 (0, 0))
  hg : w0.heap.size ≤ g
  hf : w0.heap.size ≤ f
  ne : f ≠ g
  below : Below w0.heap.size w0 W
/-- behind the loop's first lines: the next one too, in block f2. -/
structure Rd (w0 : World) (g f f2 : Nat) (A1 : Option Addr) (n1 c1 : Nat) (A2 : Option Addr) (n2 c2 : Nat) (i j : Nat) (s t : Int × Int × Int) (W : World) : Prop where
  pv : W.heap[g]? = some (.cells (pvRow t.1 t.2.1 t.2.2 i j A1 n1 c1 A2 n2 c2) 72 (0, 0))
  bf : W.heap[f]? = some (.cells (vv s) 70 (0, 0))
  b2 : W.heap[f2]? = some (.cells (vv t) 70 (0, 0))
  hg : w0.heap.size ≤ g
  hf : w0.heap.size ≤ f
  hf2 : w0.heap.size ≤ f2
  ne : f ≠ g
  ne2 : f2 ≠ f
  below : Below w0.heap.size w0 W
theorem St.rd {w0 wr W1 W2 : World} {g f f2 : Nat} {A1 : Option Addr} {n1 c1 : Nat} {A2 : Option Addr} {n2 c2 i j i' j' : Nat} {p : Int} {s t : Int × Int × Int} {C : Array Value} (S : St w0 g f A1 n1 c1 A2 n2 c2 i j p s s wr) (o1 : Only g wr W1)
    (p1 : W1.heap[g]? = some (.cells (pvRow t.1 t.2.1 t.2.2 i' j' A1 n1 c1 A2 n2 c2) 72 (0, 0))) (hb2 : Below W1.heap.size W1 W2) (ef : f2 = W1.heap.size) (kf : W2.heap[f2]? = some (.cells C 70 (0, 0))) :
    Rd w0 g f f2 A1 n1 c1 A2 n2 c2 i' j' s t (W2.setRow f2 (vv t)) := by
  have b1 := blk_kept S.bf o1.keep S.ne
  have B1 := o1.out S.below S.below.size S.hg
  have hf2 : w0.heap.size ≤ f2 := by rw [ef]; exact B1.size
  have n2g : g ≠ f2 := by rw [ef]; exact Nat.ne_of_lt (blk_lt p1)
  have n2f : f ≠ f2 := by rw [ef]; exact Nat.ne_of_lt (blk_lt b1)
  exact ⟨(setRow_other W2 f2 g _ n2g).trans (blk_below p1 hb2), (setRow_other W2 f2 f _ n2f).trans (blk_below b1 hb2), setRow_heap W2 f2 _ _ _ _ kf, S.hg, S.hf, hf2, S.ne, n2f.symm, below_setRow (B1.trans (hb2.mono B1.size)) hf2 _⟩
theorem Rd.call {w0 W W' : World} {g f f2 : Nat} {A1 : Option Addr} {n1 c1 : Nat} {A2 : Option Addr} {n2 c2 i j : Nat} {s t : Int × Int × Int} (S : Rd w0 g f f2 A1 n1 c1 A2 n2 c2 i j s t W) (hb : Below W.heap.size W W') : Rd w0 g f f2 A1 n1 c1 A2 n2 c2 i j s t W' :=
  ⟨blk_below S.pv hb, blk_below S.bf hb, blk_below S.b2 hb, S.hg, S.hf, S.hf2, S.ne, S.ne2, S.below.trans (hb.mono S.below.size)⟩
theorem Rd.next {w0 W : World} {g f f2 : Nat} {A1 : Option Addr} {n1 c1 : Nat} {A2 : Option Addr} {n2 c2 i j : Nat} {s t : Int × Int × Int} (S : Rd w0 g f f2 A1 n1 c1 A2 n2 c2 i j s t W) (p : Int) : St w0 g f A1 n1 c1 A2 n2 c2 i j p t t (W.setRow f (vv t)) :=
  ⟨(setRow_other W f g _ S.ne.symm).trans S.pv, setRow_heap W f _ _ _ _ S.bf, S.hg, S.hf, S.ne, below_setRow S.below S.hf _⟩
theorem ms_lt {w0 W W2 : World} {g f N : Nat} {A1 : Option Addr} {n1 c1 : Nat} {A2 : Option Addr} {n2 c2 i j i' j' : Nat} {p p' : Int} {s t s' t' : Int × Int × Int} (S : St w0 g f A1 n1 c1 A2 n2 c2 i j p s t W) (S' : St w0 g f A1 n1 c1 A2 n2 c2 i' j' p' s' t' W2) (h : i' + j' = i + j + 1) (hi : i' ≤ n1) (hj : j' ≤ n2) (hN : N = n1 + n2) : ms g N W2 < ms g N W := by
  rw [ms_row S.pv, ms_row S'.pv]; omega
theorem range2 {W : World} {g : Nat} {t : TypeId} {C : Array Value} (h : W.heap[g]? = some (.cells C t (0, 0))) (a b : Value) (h0 : C[0]? = some a) (h1 : C[1]? = some b) : W.rangeAt g 0 [a, b] := fun j v hj => by
  rw [blk_cell h]
  match j, hj with
  | 0, hj => simp at hj; subst hj; exact h0
  | 1, hj => simp at hj; subst hj; exact h1
theorem step2 (l1 l2 : List S63) (n1 n2 : Nat) (hn1 : l1.length = n1) (hn2 : l2.length = n2) (i j : Nat) (hi : i ≤ n1) (hj : j ≤ n2) :
    (sv l1 l2 i j = (0, 0, -1) ∧ PL l1 l2 i j = []) ∨
    ∃ (q : Iv.Sp) (k : Nat), k ≤ 1 ∧ (q ∈ l1.map sp ∨ q ∈ l2.map sp) ∧ nI k i ≤ n1 ∧ nJ k j ≤ n2 ∧ sv l1 l2 i j = (q.1, q.2, (k : Int)) ∧ PL l1 l2 i j = (q, k) :: PL l1 l2 (nI k i) (nJ k j) := by
  rcases sv_step l1 l2 i j (by omega) (by omega) with ⟨_, _, h, hP⟩ | ⟨q, hlt, hm, hs, hP⟩ | ⟨q, hlt, hm, hs, hP⟩
  · exact .inl ⟨h, hP⟩
  · exact .inr ⟨q, 0, by omega, .inl hm, by unfold nI; simp; omega, by unfold nJ; simp; omega, hs, hP⟩
  · exact .inr ⟨q, 1, by omega, .inr hm, by unfold nI; simp; omega, by unfold nJ; simp; omega, hs, hP⟩
theorem nI_nJ (k i j : Nat) : nI k i + nJ k j = i + j + 1 := by unfold nI nJ; split <;> omega
set_option maxHeartbeats 8000000 in
set_option maxRecDepth 100000 in
theorem c35_loop (l1 l2 : List S63) (A1 : Option Addr) (c1 : Nat) (A2 : Option Addr) (c2 : Nat) (w : World) (n1 n2 : Nat) (hn1 : l1.length = n1) (hn2 : l2.length = n2) (hc1 : Kd.C k63 w A1 n1 l1) (hc2 : Kd.C k63 w A2 n2 l2)
    (h1 : 0 < n1) (h2 : 0 < n2) (hl1 : n1 ≤ 4000000) (hl2 : n2 ≤ 4000000) (hb1 : Bd l1) (hb2 : Bd l2)
    (hp1 : (rd_T63 l2 0).f0 < (rd_T63 l1 ((n1 : Int) - 1)).f1) (hp2 : (rd_T63 l1 0).f0 < (rd_T63 l2 ((n2 : Int) - 1)).f1) :
    Calls Try.prog 35 #[.slice A1 n1 c1, .slice A2 n2 c2] w fun e w' => e = .returned (.bool (setsOv (l1.map sp) (l2.map sp))) ∧ Below w.heap.size w w' := by
  obtain ⟨R, hRR⟩ : ∃ R, setsOv (l1.map sp) (l2.map sp) = R := ⟨_, rfl⟩
  rw [hRR]
  obtain ⟨i1, hi1⟩ : ∃ i1 : Int, (n1 : Int) - 1 = i1 := ⟨_, rfl⟩
  obtain ⟨i2, hi2⟩ : ∃ i2 : Int, (n2 : Int) - 1 = i2 := ⟨_, rfl⟩
  rw [hi1] at hp1
  rw [hi2] at hp2
  obtain ⟨ada, ea, xa0, xa1⟩ := at_T63 hc1 i1 (by omega) (by omega)
  obtain ⟨ad1, e1, ya0, ya1⟩ := at_T63 hc1 0 (Int.le_refl 0) (by omega)
  obtain ⟨adb, eb, xb0, xb1⟩ := at_T63 hc2 i2 (by omega) (by omega)
  obtain ⟨ad2, e2, yb0, yb1⟩ := at_T63 hc2 0 (Int.le_refl 0) (by omega)
  subst ea
  cases e1
  subst eb
  cases e2
  rw [show ada.add (Int.toNat 0 * 2) = ada from by simp [Addr.add]] at ya0
  rw [show adb.add (Int.toNat 0 * 2) = adb from by simp [Addr.add]] at yb0
  have HC1 := Lib.hid hc1
  have HC2 := Lib.hid hc2
  have n1' : ((n1 : Int) == 0) = false := by apply beq_false_of_ne; omega
  have n2' : ((n2 : Int) == 0) = false := by apply beq_false_of_ne; omega
  have t1 : decide ((rd_T63 l1 i1).f1 ≤ (rd_T63 l2 0).f0) = false := by simpa using hp1
  have t2 : decide ((rd_T63 l2 i2).f1 ≤ (rd_T63 l1 0).f0) = false := by simpa using hp2
  have s1 : wrap64 i1 = i1 := w64 (by omega) (by omega)
  have s2 : wrap64 i2 = i2 := w64 (by omega) (by omega)
  have z0 : ((0 : Int) ≤ i1) = True := eq_true (by omega)
  have z1 : (i1 < (n1 : Int)) = True := eq_true (by omega)
  have z2 : ((0 : Int) ≤ i2) = True := eq_true (by omega)
  have z3 : (i2 < (n2 : Int)) = True := eq_true (by omega)
  have z4 : (0 < n1) = True := eq_true h1
  have z5 : (0 < n2) = True := eq_true h2
  have H := Lib.hid (And.intro h1 (And.intro h2 (And.intro hl1 (And.intro hl2 (And.intro hb1 (And.intro hb2 (And.intro hn1 (And.intro hn2 hRR))))))))
  clear hRR hn1 hn2 hc1 hc2 h1 h2 hb1 hb2 hp1 hp2 hl1 hl2
  go_enter Try.func35, Try.ntmps35
  go_wp2_with fail
  go_quiet (fail)
  clear hi1 hi2 s1 s2 t1 t2 z0 z1 z2 z3 z4 z5 n1' n2' xa0 xa1 ya0 ya1 xb0 xb1 yb0 yb1
  go_upto_region 8 with (fail)
  have b0 : ((w.drewN nq).alloc (Obj.cells #[.int .i64 0, .int .i64 0, .int .i64 0, .int .i64 0, .int .i64 0, .slice none 0 0, .slice none 0 0] 72)).heap[w.heap.size]? = some (.cells (pvRow 0 0 0 0 0 none 0 0 none 0 0) 72 (0, 0)) := blk_new (w.drewN nq) _
  have B0 : Below w.heap.size w ((w.drewN nq).alloc (Obj.cells #[.int .i64 0, .int .i64 0, .int .i64 0, .int .i64 0, .int .i64 0, .slice none 0 0, .slice none 0 0] 72)) := (below_drewN' (Below.refl _ _) nq).alloc (Nat.le_refl _) _
  generalize (w.drewN nq).alloc _ = W0 at *
  obtain ⟨h1, h2, hl1, hl2, hb1, hb2, hn1, hn2, hRR⟩ := H.out
  have K1 : Hid (∀ W, Below w.heap.size w W → Kd.C k63 W (some ada) n1 l1) := Lib.hid (fun W hb => Kd.C_below HC1.out hb)
  have K2 : Hid (∀ W, Below w.heap.size w W → Kd.C k63 W (some adb) n2 l2) := Lib.hid (fun W hb => Kd.C_below HC2.out hb)
  clear HC1 HC2
  obtain ⟨q, k, hk, hq, hi0, hj0, hs0, hR⟩ : ∃ (q : Iv.Sp) (k : Nat), k ≤ 1 ∧ (q ∈ l1.map sp ∨ q ∈ l2.map sp) ∧ nI k 0 ≤ n1 ∧ nJ k 0 ≤ n2 ∧ sv l1 l2 0 0 = (q.1, q.2, (k : Int)) ∧ setsOv (l1.map sp) (l2.map sp) = ovFold (q, k) (PL l1 l2 (nI k 0) (nJ k 0)) := by
    rcases sv_step l1 l2 0 0 (by omega) (by omega) with ⟨e1, _⟩ | ⟨q, hlt, hm, hs, hP⟩ | ⟨q, hlt, hm, hs, hP⟩
    · omega
    · refine ⟨q, 0, by omega, .inl hm, by unfold nI; simp; omega, by unfold nJ; simp, hs, ?_⟩
      unfold setsOv; unfold PL at hP; rw [List.drop_zero, List.drop_zero] at hP; rw [hP]; rfl
    · refine ⟨q, 1, by omega, .inr hm, by unfold nI; simp, by unfold nJ; simp; omega, hs, ?_⟩
      unfold setsOv; unfold PL at hP; rw [List.drop_zero, List.drop_zero] at hP; rw [hP]; rfl
  have HR := Lib.hid (hRR.symm.trans hR)
  clear hR hRR
  have H42 := Lib.hid (c42n w.heap.size n1 n2 l1 l2 hn1 hn2 (some ada) c1 (some adb) c2 W0 b0 (fun W ho => K1.out W (ho.out B0 B0.size (Nat.le_refl _))) (fun W ho => K2.out W (ho.out B0 B0.size (Nat.le_refl _))))
  rw [hs0] at H42
  have HB0 := Lib.hid B0
  have HQ := Lib.hid hq
  have HI := Lib.hid (And.intro hk (And.intro hi0 hj0))
  clear b0 B0 hs0 hq hk hi0 hj0 h1 h2 hl1 hl2 hb1 hb2 hn1 hn2
  go_wp2_with (first
    | (go_at_call 42; refine H42.out.mono ?_; rintro e W1 ⟨rfl, p1, o1⟩; have B1 := o1.out HB0.out HB0.out.size (Nat.le_refl _); clear H42)
    | ((with_reducible refine gate_dst (N := 8) rfl ?_); refine box_event ?hg (N := 8) ?hd (cs := #[.int .i64 0, .int .i64 0, .int .i64 0]) (t := 70) ?hr ?_; (case hd => rfl); (case hg => rfl); (case hr => first | (go_simp; done) | (go_simp; rfl)); intro f ef W2 kf hb2; have p2 := blk_below p1 hb2; have B2 := B1.trans (hb2.mono B1.size); have hf : w.heap.size ≤ f := (by rw [ef]; exact B1.size); have ne : f ≠ w.heap.size := (by rw [ef]; exact (Nat.ne_of_lt (blk_lt p1)).symm))
    | (refine wpList_store_row rfl 70 (.tmp 8) _ rfl f (vv (q.1, q.2, (k : Int))) rfl rfl 70 _ kf (by kernel_rfl) rfl (by simp [Value.oneCell']) ?_; have S3 := St.mk (w0 := w) (g := w.heap.size) (f := f) (i := 0) (j := 0) (p := 0) (s := (q.1, q.2, (k : Int))) (t := (q.1, q.2, (k : Int))) ((setRow_other W2 f w.heap.size (vv (q.1, q.2, (k : Int))) ne.symm).trans p2) (setRow_heap W2 f _ (vv (q.1, q.2, (k : Int))) _ _ kf) (Nat.le_refl _) hf ne (below_setRow B2 hf _); clear p1 p2 o1 B1 B2 hb2 kf ef))
  generalize W2.setRow f _ = W3 at *
  clear HB0 hf ne
  generalize w.heap.size = g at S3 ⊢
  simp only [Act.put, List.setIfInBounds_toArray, List.set_cons_succ, List.set_cons_zero]
  go_loopw [] (fun wr => ∃ (i j k : Nat) (q : Iv.Sp), St w g f (some ada) n1 c1 (some adb) n2 c2 i j 0 (q.1, q.2, (k : Int)) (q.1, q.2, (k : Int)) wr ∧ k ≤ 1 ∧ i ≤ n1 ∧ j ≤ n2 ∧ nI k i ≤ n1 ∧ nJ k j ≤ n2 ∧ (q ∈ l1.map sp ∨ q ∈ l2.map sp) ∧ R = ovFold (q, k) (PL l1 l2 (nI k i) (nJ k j))) (fun wr => ms g (n1 + n2) wr)
  case atStart => exact ⟨0, 0, k, q, S3, HI.out.1, Nat.zero_le _, Nat.zero_le _, HI.out.2.1, HI.out.2.2, HQ.out, HR.out⟩
  case round =>
    obtain ⟨i, j, k, q, S, hk, hi, hj, hni, hnj, hq, hR⟩ := hrel
    clear S3 HR HQ HI
    have HH := H.out
    obtain ⟨_, _, hl1, hl2, hb1, hb2, hn1, hn2, _⟩ := H.out
    have key : ∀ s, sv l1 l2 (nI k i : Nat) (nJ k j : Nat) = s → Calls Try.prog 43 #[.pointer (some ⟨g, 0, none⟩)] wr fun e w' => e = .returned (.agg (vv s)) ∧ w'.heap[g]? = some (.cells (pvRow s.1 s.2.1 s.2.2 (nI k i : Nat) (nJ k j : Nat) (some ada) n1 c1 (some adb) n2 c2) 72 (0, 0)) ∧ Only g wr w' :=
      fun s hs => c43n g n1 n2 q.1 q.2 k i j l1 l2 hn1 hn2 hl1 hl2 hk hi hj (some ada) c1 (some adb) c2 wr S.pv (fun W ho => K1.out W (ho.out S.below S.below.size S.hg)) (fun W ho => K2.out W (ho.out S.below S.below.size S.hg)) s hs
    have hu70 := Try.underlying70
    have hu63 := Try.underlying63
    rcases step2 l1 l2 n1 n2 hn1 hn2 (nI k i) (nJ k j) hni hnj with ⟨hs, hP⟩ | ⟨q2, k2, hk2, hq2, hni2, hnj2, hs, hP⟩
    · have H43 := Lib.hid (key _ hs)
      have HR := Lib.hid (hR.trans (congrArg (ovFold (q, k)) hP))
      clear key hs hP hR HH hb1 hb2 hl1 hl2 hn1 hn2 hni hnj hi hj hk hq H
      go_upto_region 10 with (first
        | (go_at_call 43; refine H43.out.mono ?_; rintro e W1 ⟨rfl, p1, o1⟩; clear H43)
        | ((with_reducible refine gate_dst (N := 9) rfl ?_); refine box_event ?hg (N := 9) ?hd (cs := #[.int .i64 0, .int .i64 0, .int .i64 0]) (t := 70) ?hr ?_; (case hd => rfl); (case hg => rfl); (case hr => first | (go_simp; done) | (go_simp; rfl)); intro f2 ef W2 kf hb2; have T := S.rd (t := ((0, 0, -1) : Int × Int × Int)) o1 p1 hb2 ef kf; clear ef hb2 p1 o1)
        | (refine wpList_store_row rfl 70 (.tmp 9) _ rfl f2 (vv ((0, 0, -1) : Int × Int × Int)) rfl rfl 70 _ kf (by kernel_rfl) rfl (by simp [Value.oneCell']) ?_; clear kf))
      generalize W2.setRow f2 _ = W3 at *
      go_wp2_with (first
        | (refine wpList_load_mid rfl 70 (.tmp 9) rfl f2 0 rfl [.int .i64 0, .int .i64 0, .int .i64 (-1)] _ (range3 T.b2 _ _ _ rfl rfl rfl) hu70 rfl (by kernel_rfl) ?_)
        | (go_at_call 44; refine (intervals_intWithIdx_done.calls 0 0 (-1) true _ rfl).mono ?_; rintro e W4 ⟨rfl, hb⟩; have T2 := T.call hb; clear T hb))
      rw [HR.out]
      exact bodyPost_ret (v := .bool false) (by simp [results, Try.results35, go_sem]) rfl ⟨rfl, T2.below⟩
    · have H43 := Lib.hid (key _ hs)
      have HR := Lib.hid (hR.trans (congrArg (ovFold (q, k)) hP))
      have HK := Lib.hid (And.intro hk (And.intro hk2 (And.intro hi (And.intro hj (And.intro hni (And.intro hnj (And.intro hni2 (And.intro hnj2 (And.intro hq hq2)))))))))
      have HD : Hid (∀ W, Calls Try.prog 44 #[.agg #[.int .i64 q2.1, .int .i64 q2.2, .int .i64 (k2 : Int)]] W fun e w' => e = .returned (.bool false) ∧ Below W.heap.size W w') := Lib.hid (fun W => intervals_intWithIdx_done.calls _ _ _ false W (congrArg some (beq_false_of_ne (by omega))))
      have HO : Hid (∀ W, Calls Try.prog 38 #[.agg #[.int .i64 q.1, .int .i64 q.2], .agg #[.int .i64 q2.1, .int .i64 q2.2]] W fun e w' => e = .returned (.bool (ov q q2)) ∧ Below W.heap.size W w') := Lib.hid (fun W => intervals_Interval_Overlaps.calls _ _ _ _ _ W (over_f q q2 (hq.elim (hb1 q) (hb2 q)) (hq2.elim (hb1 q2) (hb2 q2))))
      clear key hs hP hR HH hb1 hb2 hl1 hl2 hn1 hn2 hni hnj hi hj hk hq H hk2 hq2 hni2 hnj2
      go_upto_region 10 with (first
        | (go_at_call 43; refine H43.out.mono ?_; rintro e W1 ⟨rfl, p1, o1⟩; clear H43)
        | ((with_reducible refine gate_dst (N := 9) rfl ?_); refine box_event ?hg (N := 9) ?hd (cs := #[.int .i64 0, .int .i64 0, .int .i64 0]) (t := 70) ?hr ?_; (case hd => rfl); (case hg => rfl); (case hr => first | (go_simp; done) | (go_simp; rfl)); intro f2 ef W2 kf hb2; have T := S.rd (t := ((q2.1, q2.2, (k2 : Int)) : Int × Int × Int)) o1 p1 hb2 ef kf; clear ef hb2 p1 o1)
        | (refine wpList_store_row rfl 70 (.tmp 9) _ rfl f2 (vv ((q2.1, q2.2, (k2 : Int)) : Int × Int × Int)) rfl rfl 70 _ kf (by kernel_rfl) rfl (by simp [Value.oneCell']) ?_; clear kf))
      generalize W2.setRow f2 _ = W3 at *
      go_upto_region 11 with (first
        | (refine wpList_load_mid rfl 70 (.tmp 9) rfl f2 0 rfl [.int .i64 q2.1, .int .i64 q2.2, .int .i64 (k2 : Int)] _ (range3 T.b2 _ _ _ rfl rfl rfl) hu70 rfl (by kernel_rfl) ?_)
        | (go_at_call 44; refine (HD.out _).mono ?_; rintro e W4 ⟨rfl, hb⟩; have T2 := T.call hb; clear T hb))
      have f2c : W4.cell? ⟨f, 2, none⟩ = some (.int .i64 k) := (blk_cell T2.bf 2).trans rfl
      have s2c : W4.cell? ⟨f2, 2, none⟩ = some (.int .i64 k2) := (blk_cell T2.b2 2).trans rfl
      have rf : W4.rangeAt f 0 [.int .i64 q.1, .int .i64 q.2] := range2 T2.bf _ _ rfl rfl
      have rs : W4.rangeAt f2 0 [.int .i64 q2.1, .int .i64 q2.2] := range2 T2.b2 _ _ rfl rfl
      have RF := Lib.hid rf
      have RS := Lib.hid rs
      clear rf rs
      by_cases hkk : k = k2
      · have kk : ((k : Int) == (k2 : Int)) = true := by rw [hkk]; exact beq_self_eq_true _
        have HKK := Lib.hid hkk
        clear hkk
        go_wp2_with (first
          | (refine wpList_load_mid rfl 70 (.tmp 9) rfl f2 0 rfl [.int .i64 q2.1, .int .i64 q2.2, .int .i64 (k2 : Int)] _ (range3 T2.b2 _ _ _ rfl rfl rfl) hu70 rfl (by kernel_rfl) ?_)
          | (refine wpList_store_row rfl 70 (.tmp 8) _ rfl f (vv ((q2.1, q2.2, (k2 : Int)) : Int × Int × Int)) rfl rfl 70 _ T2.bf (by kernel_rfl) rfl (by simp [Value.oneCell']) ?_; have S5 := T2.next 0))
        simp only [Act.put, List.setIfInBounds_toArray, List.set_cons_succ, List.set_cons_zero]
        go_roundw
        case rel =>
          obtain ⟨hk, hk2, hi, hj, hni, hnj, hni2, hnj2, hq, hq2⟩ := HK.out
          exact ⟨nI k i, nJ k j, k2, q2, S5, hk2, hni, hnj, hni2, hnj2, hq2, HR.out.trans (by rw [ovFold, if_pos HKK.out])⟩
        case measure =>
          obtain ⟨hk, hk2, hi, hj, hni, hnj, hni2, hnj2, hq, hq2⟩ := HK.out
          exact ms_lt S S5 (nI_nJ k i j) hni hnj rfl
      · have kk : ((k : Int) == (k2 : Int)) = false := beq_false_of_ne (by omega)
        have HKK := Lib.hid hkk
        clear hkk
        cases ho : ov q q2 with
        | true =>
          rw [ho] at HO
          have HOO := Lib.hid ho
          clear ho
          go_wp2_with (first
            | (refine wpList_load_mid rfl 63 (.tmp 58) rfl f 0 rfl [.int .i64 q.1, .int .i64 q.2] _ RF.out hu63 rfl (by kernel_rfl) ?_)
            | (refine wpList_load_mid rfl 63 (.tmp 60) rfl f2 0 rfl [.int .i64 q2.1, .int .i64 q2.2] _ RS.out hu63 rfl (by kernel_rfl) ?_)
            | (go_at_call 38; refine (HO.out _).mono ?_; rintro e W5 ⟨rfl, hb⟩; have T3 := T2.call hb; clear hb))
          rw [HR.out, ovFold, if_neg HKK.out, if_pos HOO.out]
          exact bodyPost_ret (v := .bool true) (by simp [results, Try.results35, go_sem]) rfl ⟨rfl, T3.below⟩
        | false =>
          rw [ho] at HO
          have HOO := Lib.hid ho
          clear ho
          go_wp2_with (first
            | (refine wpList_load_mid rfl 63 (.tmp 58) rfl f 0 rfl [.int .i64 q.1, .int .i64 q.2] _ RF.out hu63 rfl (by kernel_rfl) ?_)
            | (refine wpList_load_mid rfl 63 (.tmp 60) rfl f2 0 rfl [.int .i64 q2.1, .int .i64 q2.2] _ RS.out hu63 rfl (by kernel_rfl) ?_)
            | (go_at_call 38; refine (HO.out _).mono ?_; rintro e W5 ⟨rfl, hb⟩; have T3 := T2.call hb; clear hb)
            | (refine wpList_load_mid rfl 70 (.tmp 9) rfl f2 0 rfl [.int .i64 q2.1, .int .i64 q2.2, .int .i64 (k2 : Int)] _ (range3 T3.b2 _ _ _ rfl rfl rfl) hu70 rfl (by kernel_rfl) ?_)
            | (refine wpList_store_row rfl 70 (.tmp 8) _ rfl f (vv ((q2.1, q2.2, (k2 : Int)) : Int × Int × Int)) rfl rfl 70 _ T3.bf (by kernel_rfl) rfl (by simp [Value.oneCell']) ?_; have S5 := T3.next 0))
          simp only [Act.put, List.setIfInBounds_toArray, List.set_cons_succ, List.set_cons_zero]
          go_roundw
          case rel =>
            obtain ⟨hk, hk2, hi, hj, hni, hnj, hni2, hnj2, hq, hq2⟩ := HK.out
            exact ⟨nI k i, nJ k j, k2, q2, S5, hk2, hni, hnj, hni2, hnj2, hq2, HR.out.trans (by rw [ovFold, if_neg HKK.out, if_neg (by rw [HOO.out]; decide)])⟩
          case measure =>
            obtain ⟨hk, hk2, hi, hj, hni, hnj, hni2, hnj2, hq, hq2⟩ := HK.out
            exact ms_lt S S5 (nI_nJ k i j) hni hnj rfl
end Go.Proofs.Ytmfffeoodlmnbaa.Ov
