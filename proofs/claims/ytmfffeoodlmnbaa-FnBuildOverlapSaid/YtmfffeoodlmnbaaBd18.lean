/- impl.Build: what it returns for events in falling order. The walk. -/
import Derived.Test.YtmfffeoodlmnbaaFi
import Derived.Test.YtmfffeoodlmnbaaBb
import Derived.Test.YtmfffeoodlmnbaaBld
import Derived.Test.YtmfffeoodlmnbaaRe
import Derived.Test.YtmfffeoodlmnbaaC3
namespace Go.Proofs.Ytmfffeoodlmnbaa.Bd18
set_option linter.unusedSimpArgs false
set_option linter.unusedVariables false
open Go.RowKit Go.Proofs.YtmfffeoodlmnbaaW.PrintWords Go.Proofs.YtmfffeoodlmnbaaW.PrintLast Go.Proofs.YtmfffeoodlmnbaaW.PrintMore Go.Proofs.Ytmfffeoodlmnbaa.Kit Go.Proofs.Ytmfffeoodlmnbaa.Sp Go.Proofs.Ytmfffeoodlmnbaa.Se Go.Proofs.Ytmfffeoodlmnbaa.In Go.Proofs.Ytmfffeoodlmnbaa.Iv Go.Proofs.Ytmfffeoodlmnbaa.Vp Go.Proofs.Ytmfffeoodlmnbaa.Ov Go.Proofs.Ytmfffeoodlmnbaa.Mi Go.Proofs.Ytmfffeoodlmnbaa.Mr Go.Proofs.Ytmfffeoodlmnbaa.Pj Go.Proofs.Ytmfffeoodlmnbaa.Bu Go.Proofs.Ytmfffeoodlmnbaa.Re Go.Proofs.Ytmfffeoodlmnbaa.C3 Go.Proofs.Ytmfffeoodlmnbaa.Fi Go.Proofs.Ytmfffeoodlmnbaa.Bb
def ev (x : S32) : Iv.Ev := (x.f0, x.f1)
theorem rd2 (l : List S32) (i : Nat) (h : i < l.length) : rd_T32 l (i : Int) = l[i] := by
  unfold rd_T32
  rw [Int.toNat_natCast, List.getD, List.getElem?_eq_getElem h]; rfl
/-- one event is one step of the fold. -/
theorem bfold_stp (st : List Iv.Sp) (o : Bool) (e : Iv.Ev) (l : List Iv.Ev) (h : o = true → st ≠ []) : Iv.bfold st o (e :: l) = Iv.bfold (stp st o e.2 e.1) (!e.2) l := by
  obtain ⟨x, k⟩ := e
  cases k <;> cases o <;> simp only [Iv.bfold, stp] <;> simp
  · cases st with
    | nil => exact absurd rfl (h rfl)
    | cons s st => rfl
  · cases st with
    | nil => exact absurd rfl (h rfl)
    | cons s st => rfl
theorem BB.ne {w0 : World} {g : Nat} {st : List Iv.Sp} {q : Int} {N : Nat} {W : World} (h : BB w0 g st true q N W) : st ≠ [] := by
  obtain ⟨v, acc, p, S, hst, _, _, h1⟩ := h
  obtain ⟨_, hne⟩ := h1 rfl
  intro e
  rw [e] at hst
  have := congrArg List.length hst
  simp at this
  exact hne this
theorem BB.call {w0 : World} {g : Nat} {st : List Iv.Sp} {o : Bool} {q : Int} {N : Nat} {W W' : World} (h : BB w0 g st o q N W) (hb : Below W.heap.size W W') : BB w0 g st o q N W' := by
  obtain ⟨v, acc, p, S, r⟩ := h
  exact ⟨v, acc, p, S.call hb, r⟩
theorem BB.start (w : World) : BB w w.heap.size [] false 0 0 (w.alloc (.cells #[.slice none 0 0, .int .i64 0] 54)) :=
  ⟨.slice none 0 0, [], 0, ⟨blk_new w _, Kd.R_nil _ _ _ _ _, Nat.le_refl _, (Below.refl _ _).alloc (Nat.le_refl _) _⟩, rfl, Nat.le_refl _, (fun _ => rfl), (fun h => by cases h)⟩
theorem BB.mono {w0 : World} {g : Nat} {st : List Iv.Sp} {o : Bool} {q : Int} {N M : Nat} {W : World} (h : BB w0 g st o q N W) (hm : N ≤ M) : BB w0 g st o q M W := by
  obtain ⟨v, acc, p, S, a, b, r⟩ := h
  exact ⟨v, acc, p, S, a, by omega, r⟩
theorem BB.below {w0 : World} {g : Nat} {st : List Iv.Sp} {o : Bool} {q : Int} {N : Nat} {W : World} (h : BB w0 g st o q N W) : Below w0.heap.size w0 W := by
  obtain ⟨v, acc, p, S, _⟩ := h
  exact S.below
theorem BB.row {w0 : World} {g : Nat} {st : List Iv.Sp} {o : Bool} {q : Int} {N : Nat} {W : World} (h : BB w0 g st o q N W) {f : Nat} {C : Array Value} (hf : w0.heap.size ≤ f) (hb : W.heap[f]? = some (.cells C 32 (0, 0))) (X : Array Value) : BB w0 g st o q N (W.setRow f X) := by
  obtain ⟨v, acc, p, S, r⟩ := h
  have ne : g ≠ f := fun e => by have := S.bg; rw [e, hb] at this; injection this with this; injection this with _ this; cases this
  exact ⟨v, acc, p, ⟨(setRow_other W f g X ne).trans S.bg, S.rt.row hb (by decide) X, S.hg, below_setRow S.below hf X⟩, r⟩
set_option maxHeartbeats 8000000 in
set_option maxRecDepth 100000 in
theorem c18 (evs : List S32) (A : Option Addr) (n c : Nat) (hn : evs.length = n) (hl : n ≤ 1000000) (w : World) (hC : Kd.C k32 w A n evs)
    (hev : ∀ i : Nat, i < n → 0 ≤ (rd_T32 evs i).f0 ∧ (rd_T32 evs i).f0 ≤ 1099511627776 ∧ (0 < i → (rd_T32 evs i).f0 < (rd_T32 evs ((i : Int) - 1)).f0 ∧ (rd_T32 evs ((i : Int) - 1)).f0 ≤ 1099511627776)) (lo : Int) (hg : Gap lo (Iv.bfold [] false (evs.map ev))) :
    Calls Try.prog 18 #[.slice A n c] w fun e w' => ∃ (A' : Option Addr) (n' c' : Nat) (L : List S39), e = .returned (.tuple #[.slice A' n' c', .bool true]) ∧ L.length = n' ∧ n' ≤ c' ∧ Kd.C k39 w' A' n' L ∧ L.map s9 = Iv.bfold [] false (evs.map ev) ∧ Below w.heap.size w w' := by
  obtain ⟨R, hR⟩ : ∃ R, Iv.bfold [] false (evs.map ev) = R := ⟨_, rfl⟩
  rw [hR] at hg ⊢
  have HG := Lib.hid hg
  clear hg
  have K : Hid (∀ W, Below w.heap.size w W → Kd.C k32 W A n evs) := Lib.hid (fun W hb => Kd.C_below hC hb)
  have H := Lib.hid (And.intro hn (And.intro hl (And.intro hev hR)))
  clear hn hl hC hev hR
  have hu32 := Try.underlying32
  go_enter Try.func18, Try.ntmps18
  go_upto_region 2 with (fail)
  have B0 := BB.start w
  generalize w.alloc _ = W0 at *
  generalize w.heap.size = g at B0 ⊢
  go_wp2_with fail
  go_loopw [12] (fun x wr => ∃ (i : Nat) (st : List Iv.Sp) (o : Bool) (q : Int), x = .int .i64 i ∧ i ≤ n ∧ BB w g st o q i wr ∧ (o = true → 0 < i ∧ q = (rd_T32 evs ((i : Int) - 1)).f0) ∧ R = Iv.bfold st o ((evs.drop i).map ev)) (fun x _ => n - (intOf x).toNat)
  case atStart =>
    obtain ⟨_, _, _, hR⟩ := H.out
    exact ⟨0, [], false, 0, rfl, Nat.zero_le _, B0, (fun h => by cases h), hR.symm⟩
  case round =>
    clear B0
    obtain ⟨i, st, o, q, rfl, hi, hB, ho, hR⟩ := hrel
    have hB : BB w g st o q i wr := hB
    obtain ⟨hn, hl, hev, _⟩ := H.out
    by_cases hin : i < n
    · obtain ⟨v1, v2, v3⟩ := hev i hin
      obtain ⟨ad, e, x0, x1⟩ := at_T32 (K.out wr (BB.below hB)) i (by omega) (by omega)
      cases e
      rw [Int.toNat_natCast] at x0 x1
      have t0 : ((i : Int) < (n : Int)) = True := eq_true (by omega)
      have t1 : (i < n) = True := eq_true hin
      have s1 : wrap64 ((i : Int) + 1) = (i : Int) + 1 := w64' _ (by omega) (by omega)
      have hqq : o = true → (rd_T32 evs i).f0 < q ∧ q ≤ 1099511627776 := fun h => by obtain ⟨h1, h2⟩ := ho h; rw [h2]; exact v3 h1
      have HR : Hid (R = Iv.bfold (stp st o (rd_T32 evs i).f1 (rd_T32 evs i).f0) (!(rd_T32 evs i).f1) ((evs.drop (i + 1)).map ev)) := Lib.hid (by
        rw [hR, List.drop_eq_getElem_cons (by omega : i < evs.length), List.map_cons, bfold_stp _ _ _ _ (fun h => by subst h; exact BB.ne hB), rd2 evs i (by omega)]; rfl)
      have HK := Lib.hid (And.intro hin hi)
      have H31 : Hid (∀ W, BB w g st o q i W → Calls Try.prog 31 #[.pointer (some ⟨g, 0, none⟩), .int .i64 (rd_T32 evs i).f0] W fun e w' => e = .returned .nilIface ∧ BB w g (stp st o true (rd_T32 evs i).f0) false (rd_T32 evs i).f0 i w') := Lib.hid (fun W h => kill w g st o q _ i W h (by omega) v1 hqq)
      have H32 : Hid (∀ W, BB w g st o q i W → Calls Try.prog 32 #[.pointer (some ⟨g, 0, none⟩), .int .i64 (rd_T32 evs i).f0] W fun e w' => e = .returned .nilIface ∧ BB w g (stp st o false (rd_T32 evs i).f0) true (rd_T32 evs i).f0 (i + 1) w') := Lib.hid (fun W h => live w g st o q _ i W h (by omega) v1 v2 hqq)
      obtain ⟨e0, he0⟩ : ∃ e0, (rd_T32 evs i).f0 = e0 := ⟨_, rfl⟩
      obtain ⟨e1, he1⟩ : ∃ e1, (rd_T32 evs i).f1 = e1 := ⟨_, rfl⟩
      rw [he0, he1] at HR
      rw [he0] at H31 H32 x0
      rw [he1] at x1
      have HE := Lib.hid he0
      have HB := Lib.hid hB
      clear hn hl hev hin hi hR ho hqq v1 v2 v3 he0 he1 hB
      go_upto_region 6 with (first
        | ((with_reducible refine gate_dst (N := 6) rfl ?_); refine box_event ?hg (N := 6) ?hd (cs := #[.int .i64 0, .bool false]) (t := 32) ?hr ?_; (case hd => rfl); (case hg => rfl); (case hr => first | (go_simp; done) | (go_simp; rfl)); intro f ef W2 kf hb2; have hB2 := BB.call HB.out hb2; have hf : w.heap.size ≤ f := (by rw [ef]; exact (BB.below HB.out).size); clear ef hb2)
        | (refine wpList_store_row rfl 32 (.tmp 6) _ rfl f #[.int .i64 e0, .bool e1] rfl rfl 32 _ kf (by kernel_rfl) rfl (by simp [Value.oneCell']) ?_; have hB3 := BB.row hB2 hf kf #[.int .i64 e0, .bool e1]; have k3 := setRow_heap W2 f _ #[.int .i64 e0, .bool e1] _ _ kf; clear kf hB2))
      generalize W2.setRow f _ = W3 at *
      have c0 : W3.cell? ⟨f, 0, none⟩ = some (.int .i64 e0) := (blk_cell k3 0).trans rfl
      have c1 : W3.cell? ⟨f, 1, none⟩ = some (.bool e1) := (blk_cell k3 1).trans rfl
      have hB3 := Lib.hid hB3
      clear k3 x0 x1
      cases e1 with
      | true =>
        go_wp2_with (go_at_call 31; refine (H31.out _ hB3.out).mono ?_; rintro e W4 ⟨rfl, hB4⟩; have HB4 := Lib.hid hB4; clear hB4)
        rw [s1]
        clear s1 t0 t1
        refine ⟨⟨i + 1, _, false, _, by rw [Int.natCast_add]; rfl, HK.out.1, BB.mono HB4.out (by omega), (fun h => by cases h), HR.out⟩, ?_⟩
        have h1 := HK.out.1
        show n - ((i : Int) + 1).toNat < n - ((i : Int)).toNat
        omega
      | false =>
        go_wp2_with (go_at_call 32; refine (H32.out _ hB3.out).mono ?_; rintro e W4 ⟨rfl, hB4⟩; have HB4 := Lib.hid hB4; clear hB4)
        rw [s1]
        clear s1 t0 t1
        refine ⟨⟨i + 1, _, true, _, by rw [Int.natCast_add]; rfl, HK.out.1, HB4.out, (fun _ => ⟨by omega, by rw [← HE.out]; congr 2; omega⟩), HR.out⟩, ?_⟩
        have h1 := HK.out.1
        show n - ((i : Int) + 1).toNat < n - ((i : Int)).toNat
        omega
    · have t1 : (i < n) = False := eq_false hin
      have t0 : ((i : Int) < (n : Int)) = False := eq_false (by omega)
      have e : R = st := by rw [hR, List.drop_eq_nil_of_le (by omega)]; rfl
      subst e
      obtain ⟨v, acc, p, S, hst, hl2, _, _⟩ := hB
      obtain ⟨A1, cc, hv⟩ := Kd.R_slice S.rt
      subst hv
      have H33 : Hid (Calls Try.prog 33 #[.pointer (some ⟨g, 0, none⟩)] wr fun e w' => e = .returned (.tuple #[.slice A1 acc.length cc, .nilIface]) ∧ RT w w' (.slice A1 acc.length cc) acc.reverse ∧ Below w.heap.size w w') := Lib.hid (by
        by_cases h0 : acc.length = 0
        · have ha : acc = [] := List.length_eq_zero_iff.1 h0
          subst ha
          exact c33_0 w g A1 cc p wr S
        · obtain ⟨b, cap, hv, _⟩ := Kd.R_form S.rt (by omega)
          injection hv with hv1 _ hv2
          subst hv1 hv2
          exact c33 w g b acc.length cc acc p wr S rfl (by omega) (by omega) lo (by rw [hst]; exact HG.out))
      have HL : Hid (acc.length ≤ 1000000) := Lib.hid (by omega)
      have HS := Lib.hid hst
      clear hn hl hev hin hi hR ho S hst hl2
      generalize hm : acc.length = m at *
      have HM := Lib.hid hm
      clear hm
      go_wp2_with (first
        | (go_at_call 33; refine H33.out.mono ?_; rintro e W1 ⟨rfl, r1, b1⟩)
        | (go_at_call 29; refine (Go.Proofs.Ytmfffeoodlmnbaa.Mw.out_c acc.reverse (by rw [List.length_reverse, HM.out]; have := HL.out; omega) A1 m cc (by rw [List.length_reverse, HM.out]) (Kd.R_reads' r1).2.1 _ (by have := (Kd.R_reads' r1).2.2; rw [List.length_reverse, HM.out] at this; exact this)).mono ?_; rintro e W2 ⟨A2, n2, c2, rfl, q1, q2, q3, b2⟩))
      exact bodyPost_ret (v := .tuple #[.slice A2 n2 c2, .bool true]) (by simp [results, Try.results18, go_sem]) rfl ⟨A2, n2, c2, acc.reverse.map cu, rfl, q1, q2, q3, by rw [s9_cu]; exact HS.out, b1.trans (b2.mono b1.size)⟩
end Go.Proofs.Ytmfffeoodlmnbaa.Bd18
