/- laws.FnBuildOverlap: it returns true. The walk. -/
import Derived.Test.YtmfffeoodlmnbaaPb
import Derived.Test.YtmfffeoodlmnbaaSo
import Derived.Test.YtmfffeoodlmnbaaPl
import Derived.Test.YtmfffeoodlmnbaaFi
import Derived.Test.YtmfffeoodlmnbaaBb
import Derived.Test.YtmfffeoodlmnbaaBld
import Derived.Test.YtmfffeoodlmnbaaRe
import Derived.Test.YtmfffeoodlmnbaaC3
namespace Go.Proofs.Ytmfffeoodlmnbaa.C4
set_option linter.unusedSimpArgs false
set_option linter.unusedVariables false
open Go.RowKit Go.Proofs.YtmfffeoodlmnbaaW.PrintWords Go.Proofs.YtmfffeoodlmnbaaW.PrintLast Go.Proofs.YtmfffeoodlmnbaaW.PrintMore Go.Proofs.Ytmfffeoodlmnbaa.Kit Go.Proofs.Ytmfffeoodlmnbaa.Sp Go.Proofs.Ytmfffeoodlmnbaa.Se Go.Proofs.Ytmfffeoodlmnbaa.In Go.Proofs.Ytmfffeoodlmnbaa.Iv Go.Proofs.Ytmfffeoodlmnbaa.Vp Go.Proofs.Ytmfffeoodlmnbaa.Ov Go.Proofs.Ytmfffeoodlmnbaa.Mi Go.Proofs.Ytmfffeoodlmnbaa.Mr Go.Proofs.Ytmfffeoodlmnbaa.Pj Go.Proofs.Ytmfffeoodlmnbaa.Bu Go.Proofs.Ytmfffeoodlmnbaa.Re Go.Proofs.Ytmfffeoodlmnbaa.C3 Go.Proofs.Ytmfffeoodlmnbaa.Fi Go.Proofs.Ytmfffeoodlmnbaa.Bb Go.Proofs.Ytmfffeoodlmnbaa.Bd18 Go.Proofs.Ytmfffeoodlmnbaa.Pb Go.Proofs.Ytmfffeoodlmnbaa.Pl Go.Proofs.Ytmfffeoodlmnbaa.Mw Go.Proofs.Ytmfffeoodlmnbaa.So
theorem c4_l1 (A1 : Option Addr) (n1 c1 : Nat) (A2 : Option Addr) (n2 c2 : Nat) (w : World) (h : decide ((n1 : Int) > 2147483647) = true) :
    Calls Try.prog 4 #[.slice A1 n1 c1, .slice A2 n2 c2] w fun e w' => e = .returned (.bool true) ∧ Below w.heap.size w w' := by
  go_enter Try.func4, Try.ntmps4
  go_wp2
  exact bodyPost_ret (v := .bool true) (by simp [results, Try.results4, go_sem]) rfl ⟨rfl, Below.refl _ _⟩
theorem c4_l2 (A1 : Option Addr) (n1 c1 : Nat) (A2 : Option Addr) (n2 c2 : Nat) (w : World) (h0 : decide ((n1 : Int) > 2147483647) = false) (h : decide ((n2 : Int) > 2147483647) = true) :
    Calls Try.prog 4 #[.slice A1 n1 c1, .slice A2 n2 c2] w fun e w' => e = .returned (.bool true) ∧ Below w.heap.size w w' := by
  go_enter Try.func4, Try.ntmps4
  go_wp2
  exact bodyPost_ret (v := .bool true) (by simp [results, Try.results4, go_sem]) rfl ⟨rfl, Below.refl _ _⟩
set_option maxHeartbeats 8000000 in
theorem c4_n1 (A1 : Option Addr) (n1 c1 : Nat) (A2 : Option Addr) (n2 c2 : Nat) (w : World) (h1 : decide ((n1 : Int) > 2147483647) = false) (h2 : decide ((n2 : Int) > 2147483647) = false)
    (H17a : Hid (∀ W, Below w.heap.size w W → Calls Try.prog 17 #[.slice A1 n1 c1] W fun e w' => e = .returned (.bool false) ∧ Below W.heap.size W w'))
    (H14 : Hid (∀ W, Calls Try.prog 14 #[] W fun e w' => e = .returned (.bool true) ∧ Below W.heap.size W w')) :
    Calls Try.prog 4 #[.slice A1 n1 c1, .slice A2 n2 c2] w fun e w' => e = .returned (.bool true) ∧ Below w.heap.size w w' := by
  have HB0 := Lib.hid (Below.refl w.heap.size w)
  go_enter Try.func4, Try.ntmps4
  go_wp2_with (first
    | (go_at_call 17; refine (H17a.out _ HB0.out).mono ?_; rintro e W1 ⟨rfl, b⟩; have HB1 := Lib.hid (HB0.out.trans (b.mono HB0.out.size)); clear b HB0)
    | (go_at_call 14; refine (H14.out _).mono ?_; rintro e W2 ⟨rfl, b⟩; have HB2 := Lib.hid (HB1.out.trans (b.mono HB1.out.size)); clear b HB1))
  exact bodyPost_ret (v := .bool true) (by simp [results, Try.results4, go_sem]) rfl ⟨rfl, HB2.out⟩
set_option maxHeartbeats 8000000 in
theorem c4_n2 (A1 : Option Addr) (n1 c1 : Nat) (A2 : Option Addr) (n2 c2 : Nat) (w : World) (h1 : decide ((n1 : Int) > 2147483647) = false) (h2 : decide ((n2 : Int) > 2147483647) = false)
    (H17a : Hid (∀ W, Below w.heap.size w W → Calls Try.prog 17 #[.slice A1 n1 c1] W fun e w' => e = .returned (.bool true) ∧ Below W.heap.size W w'))
    (H17b : Hid (∀ W, Below w.heap.size w W → Calls Try.prog 17 #[.slice A2 n2 c2] W fun e w' => e = .returned (.bool false) ∧ Below W.heap.size W w'))
    (H14 : Hid (∀ W, Calls Try.prog 14 #[] W fun e w' => e = .returned (.bool true) ∧ Below W.heap.size W w')) :
    Calls Try.prog 4 #[.slice A1 n1 c1, .slice A2 n2 c2] w fun e w' => e = .returned (.bool true) ∧ Below w.heap.size w w' := by
  have HB0 := Lib.hid (Below.refl w.heap.size w)
  go_enter Try.func4, Try.ntmps4
  go_wp2_with (first
    | (go_at_call 17; refine (H17a.out _ HB0.out).mono ?_; rintro e W1 ⟨rfl, b⟩; have HB1 := Lib.hid (HB0.out.trans (b.mono HB0.out.size)); clear b HB0)
    | (go_at_call 17; refine (H17b.out _ HB1.out).mono ?_; rintro e W2 ⟨rfl, b⟩; have HB2 := Lib.hid (HB1.out.trans (b.mono HB1.out.size)); clear b HB1)
    | (go_at_call 14; refine (H14.out _).mono ?_; rintro e W3 ⟨rfl, b⟩; have HB3 := Lib.hid (HB2.out.trans (b.mono HB2.out.size)); clear b HB2))
  exact bodyPost_ret (v := .bool true) (by simp [results, Try.results4, go_sem]) rfl ⟨rfl, HB3.out⟩
theorem info32 : (Try.prog.info? 32).map (fun i => (i.zero, i.size, i.bytes)) = some (some (.agg #[(.int .i64 0), (.bool false)]), 2, 16) := by kernel_rfl
theorem k32_KM (W : World) (base : Nat) (ok : Nat → Prop) (x : S32) (cs : List Value) (h : k32.K W x cs) : k32.M W base ok x cs := by
  rw [k32_open h]; exact k32_mkM _ _ _ x
theorem rd32 (l : List S32) (i : Nat) (h : i < l.length) : rd_T32 l (i : Int) = l[i] := rd2 l i h
/-- what is asked of one event. -/
def gg (p1 p2 : Int → Bool) (e : S32) : Bool := !e.f1 && (p1 e.f0 && p2 e.f0)
theorem any_step (l : List S32) (g : S32 → Bool) (i : Nat) (h : i < l.length) : (l.take (i + 1)).any g = ((l.take i).any g || g l[i]) := by
  rw [List.take_succ_eq_append_getElem h, List.any_append]; simp
set_option maxHeartbeats 16000000 in
set_option maxRecDepth 100000 in
theorem c4_y (l1 l2 : List S32) (p1 p2 : Int → Bool) (R1 R2 : List Iv.Sp) (B : Bool) (A1 : Option Addr) (n1 c1 : Nat) (A2 : Option Addr) (n2 c2 : Nat) (w : World) (h1 : decide ((n1 : Int) > 2147483647) = false) (h2 : decide ((n2 : Int) > 2147483647) = false) (hl1 : n1 ≤ 1000000) (hl2 : n2 ≤ 1000000)
    (hm1 : l1.length = n1) (hm2 : l2.length = n2) (hC1 : Hid (∀ W, Below w.heap.size w W → Kd.C k32 W A1 n1 l1)) (hC2 : Hid (∀ W, Below w.heap.size w W → Kd.C k32 W A2 n2 l2))
    (H17a : Hid (∀ W, Below w.heap.size w W → Calls Try.prog 17 #[.slice A1 n1 c1] W fun e w' => e = .returned (.bool true) ∧ Below W.heap.size W w'))
    (H17b : Hid (∀ W, Below w.heap.size w W → Calls Try.prog 17 #[.slice A2 n2 c2] W fun e w' => e = .returned (.bool true) ∧ Below W.heap.size W w'))
    (H18a : Hid (∀ W, Below w.heap.size w W → Calls Try.prog 18 #[.slice A1 n1 c1] W fun e w' => ∃ (A' : Option Addr) (n' c' : Nat) (L : List S39), e = .returned (.tuple #[.slice A' n' c', .bool true]) ∧ L.length = n' ∧ n' ≤ c' ∧ Kd.C k39 w' A' n' L ∧ L.map s9 = R1 ∧ Below W.heap.size W w'))
    (H18b : Hid (∀ W, Below w.heap.size w W → Calls Try.prog 18 #[.slice A2 n2 c2] W fun e w' => ∃ (A' : Option Addr) (n' c' : Nat) (L : List S39), e = .returned (.tuple #[.slice A' n' c', .bool true]) ∧ L.length = n' ∧ n' ≤ c' ∧ Kd.C k39 w' A' n' L ∧ L.map s9 = R2 ∧ Below W.heap.size W w'))
    (H19a : Hid (∀ x W, Below w.heap.size w W → Calls Try.prog 19 #[.slice A1 n1 c1, .int .i64 x] W fun e w' => e = .returned (.bool (p1 x)) ∧ Below W.heap.size W w'))
    (H19b : Hid (∀ x W, Below w.heap.size w W → Calls Try.prog 19 #[.slice A2 n2 c2, .int .i64 x] W fun e w' => e = .returned (.bool (p2 x)) ∧ Below W.heap.size W w'))
    (H20 : Hid (∀ (L1 L2 : List S39) (X1 : Option Addr) (m1 d1 : Nat) (X2 : Option Addr) (m2 d2 : Nat), L1.map s9 = R1 → L2.map s9 = R2 → L1.length = m1 → L2.length = m2 → m1 ≤ d1 → m2 ≤ d2 → ∀ W, Kd.C k39 W X1 m1 L1 → Kd.C k39 W X2 m2 L2 → Calls Try.prog 20 #[.slice X1 m1 d1, .slice X2 m2 d2] W fun e w' => e = .returned (.bool B) ∧ Below W.heap.size W w'))
    (H14 : Hid (∀ W, Calls Try.prog 14 #[] W fun e w' => e = .returned (.bool true) ∧ Below W.heap.size W w'))
    (hB : (l1 ++ l2).any (gg p1 p2) = B) :
    Calls Try.prog 4 #[.slice A1 n1 c1, .slice A2 n2 c2] w fun e w' => e = .returned (.bool true) ∧ Below w.heap.size w w' := by
  have HB0 := Lib.hid (Below.refl w.heap.size w)
  obtain ⟨l, hl⟩ : ∃ l, l1 ++ l2 = l := ⟨_, rfl⟩
  obtain ⟨m, hm⟩ : ∃ m, l.length = m := ⟨_, rfl⟩
  have hmm : m ≤ 2000000 := by rw [← hm, ← hl, List.length_append]; omega
  rw [hl] at hB
  have HN := Lib.hid (And.intro hm hmm)
  have HX := Lib.hid hB
  have HL1 : Hid (([] : List S32).length + n1 ≤ 1000000) := Lib.hid (by simpa using hl1)
  have HL2 : Hid (([] ++ l1 : List S32).length + n2 ≤ 2000000) := Lib.hid (by simp; omega)
  have HM2 := Lib.hid hm2
  have HLL := Lib.hid hl
  clear hl1 hl2 hm1 hm2 hmm hB hl hm
  have hu32 := Try.underlying32
  go_enter Try.func4, Try.ntmps4
  go_upto_region 8 with (first
    | (go_at_call 17; refine (H17a.out _ HB0.out).mono ?_; rintro e W1 ⟨rfl, b⟩; have HB1 := Lib.hid (HB0.out.trans (b.mono HB0.out.size)); clear b HB0)
    | (go_at_call 17; refine (H17b.out _ HB1.out).mono ?_; rintro e W2 ⟨rfl, b⟩; have HB2 := Lib.hid (HB1.out.trans (b.mono HB1.out.size)); clear b HB1)
    | (go_at_call 18; refine (H18a.out _ HB2.out).mono ?_; rintro e W3 ⟨X1, m1, d1, L1, rfl, q1, q2, q3, q4, b⟩; have HB3 := Lib.hid (HB2.out.trans (b.mono HB2.out.size)); have Z1 := Lib.hid (And.intro q4 (And.intro q1 q2)); have Y1 := Lib.hid q3; clear b q1 q2 q3 q4 HB2)
    | (go_at_call 18; refine (H18b.out _ HB3.out).mono ?_; rintro e W4 ⟨X2, m2, d2, L2, rfl, q1, q2, q3, q4, b⟩; have HB4 := Lib.hid (HB3.out.trans (b.mono HB3.out.size)); have Z2 := Lib.hid (And.intro q4 (And.intro q1 q2)); have Y2 := Lib.hid q3; have Y3 := Lib.hid (Kd.C_below Y1.out b); clear b q1 q2 q3 q4 HB3 Y1))
  go_wp2_with (first
    | ((with_reducible refine gate_dst (N := 39) rfl ?_); refine Kd.R_lit k32 (w0 := W4) W4.heap.size 32 rfl rfl (xs := []) (inner := []) (ok := fun _ => True) (okp := fun _ => False) ?hr (Reps.none _ _) (fun _ hk => hk.elim) trivial (Below.refl _ _) (Nat.le_refl _) (by decide) ?_; (case hr => first | (go_simp; done) | (go_simp; rfl)); intro v0 W5 r0 b0 g0 _)
    | ((with_reducible refine gate_builtin (b := .append) (xs := #[.tmp 39, .tmp 40]) rfl ?_); at_builtin; refine Kd.R_append_rows k32 (Rr := k32.K W5) (w0 := W4) W4.heap.size rfl (.tmp 39) (.tmp 40) 27 32 (.agg #[(.int .i64 0), (.bool false)]) 16 rfl Try.underlying27 info32 rfl (by decide) (by omega) v0 [] l1 A1 n1 c1 (fun _ => True) (fun _ => False) rfl rfl r0 (hC1.out _ (HB4.out.trans (b0.mono HB4.out.size))) (fun x cs h => k32_KM _ _ _ x cs h) (fun _ hk => hk.elim) (fun _ _ => trivial) b0 b0.size ?aL ?_; (case aL => have := HL1.out; omega); intro v1 W6 r1 b1 g1 _)
    | ((with_reducible refine gate_builtin (b := .append) (xs := #[.tmp 41, .tmp 42]) rfl ?_); at_builtin; refine Kd.R_append_rows k32 (Rr := k32.K W6) (w0 := W4) W4.heap.size rfl (.tmp 41) (.tmp 42) 27 32 (.agg #[(.int .i64 0), (.bool false)]) 16 rfl Try.underlying27 info32 rfl (by decide) (by omega) v1 ([] ++ l1) l2 A2 n2 c2 (fun _ => True) (fun _ => False) rfl rfl r1 (hC2.out _ (HB4.out.trans (b1.mono HB4.out.size))) (fun x cs h => k32_KM _ _ _ x cs h) (fun _ hk => hk.elim) (fun _ _ => trivial) b1 b1.size ?aL ?_; (case aL => have := HL2.out; omega); intro v2 W7 r2 b2 g2 _; rw [List.nil_append, HLL.out] at r2; obtain ⟨A3, c3, hv⟩ := Kd.R_slice r2; rw [HN.out.1] at hv; subst hv; have K3 := Lib.hid (Kd.R_reads' r2).2.2; have HB7 := Lib.hid b2; clear r2 g2 b1 r1 g1 b0 r0 g0))
  rw [HN.out.1] at K3
  have HB8 := Lib.hid (HB4.out.trans (HB7.out.mono HB4.out.size))
  have Y4 := Lib.hid (Kd.C_below Y2.out HB7.out)
  have Y5 := Lib.hid (Kd.C_below Y3.out HB7.out)
  clear Y2 Y3 HB7 HB4
  go_loopw [9, 45] (fun x9 x45 wr => ∃ i : Nat, x9 = .bool ((l.take i).any (gg p1 p2)) ∧ x45 = .int .i64 i ∧ i ≤ m ∧ Below W7.heap.size W7 wr) (fun _ x45 _ => m - (intOf x45).toNat)
  case atStart => exact ⟨0, rfl, rfl, Nat.zero_le _, Below.refl _ _⟩
  case round =>
    obtain ⟨i, rfl, rfl, hi, hb⟩ := hrel
    obtain ⟨hm, hmm⟩ := HN.out
    by_cases hin : i < m
    · obtain ⟨ad, e, x0, x1⟩ := at_T32 (Kd.C_below K3.out hb) i (by omega) (by omega)
      cases e
      rw [Int.toNat_natCast] at x0 x1
      have t0 : ((i : Int) < (m : Int)) = True := eq_true (by omega)
      have t1 : (i < m) = True := eq_true hin
      have s1 : wrap64 ((i : Int) + 1) = (i : Int) + 1 := w64' _ (by omega) (by omega)
      have HK : Hid (i + 1 ≤ m) := Lib.hid hin
      have hT := any_step l (gg p1 p2) i (by omega)
      rw [← rd32 l i (by omega)] at hT
      unfold gg at hT
      obtain ⟨e0, he0⟩ : ∃ e0, (rd_T32 l i).f0 = e0 := ⟨_, rfl⟩
      obtain ⟨e1, he1⟩ : ∃ e1, (rd_T32 l i).f1 = e1 := ⟨_, rfl⟩
      rw [he0] at x0 hT
      rw [he1] at x1 hT
      have HA : Hid (∀ W, Below w.heap.size w W → Calls Try.prog 19 #[.slice A1 n1 c1, .int .i64 e0] W fun e w' => e = .returned (.bool (p1 e0)) ∧ Below W.heap.size W w') := Lib.hid (H19a.out e0)
      have HC : Hid (∀ W, Below w.heap.size w W → Calls Try.prog 19 #[.slice A2 n2 c2, .int .i64 e0] W fun e w' => e = .returned (.bool (p2 e0)) ∧ Below W.heap.size W w') := Lib.hid (H19b.out e0)
      have hT' : (l.take (i + 1)).any (gg p1 p2) = ((l.take i).any (gg p1 p2) || (!e1 && (p1 e0 && p2 e0))) := hT
      have HT := Lib.hid hT'
      generalize (l.take i).any (gg p1 p2) = bb at HT ⊢
      generalize p1 e0 = q1 at HT HA
      generalize p2 e0 = q2 at HT HC
      have HBr := Lib.hid hb
      clear he0 he1 hT hT' hm hmm hi hin hb
      go_upto_region 11 with (first
        | ((with_reducible refine gate_dst (N := 11) rfl ?_); refine box_event ?hg (N := 11) ?hd (cs := #[.int .i64 0, .bool false]) (t := 32) ?hr ?_; (case hd => rfl); (case hg => rfl); (case hr => first | (go_simp; done) | (go_simp; rfl)); intro f ef W8 kf hb2; have hb3 := HBr.out.trans (hb2.mono HBr.out.size); have hf : W7.heap.size ≤ f := (by rw [ef]; exact HBr.out.size); clear ef hb2)
        | (refine wpList_store_row rfl 32 (.tmp 11) _ rfl f #[.int .i64 e0, .bool e1] rfl rfl 32 _ kf (by kernel_rfl) rfl (by simp [Value.oneCell']) ?_; have hb4 := below_setRow hb3 hf #[.int .i64 e0, .bool e1]; have k3 := setRow_heap W8 f _ #[.int .i64 e0, .bool e1] _ _ kf; clear kf hb3))
      generalize W8.setRow f _ = W9 at *
      have y0 : W9.cell? ⟨f, 0, none⟩ = some (.int .i64 e0) := (blk_cell k3 0).trans rfl
      have y1 : W9.cell? ⟨f, 1, none⟩ = some (.bool e1) := (blk_cell k3 1).trans rfl
      have HB9 := Lib.hid hb4
      have K9 := Lib.hid k3
      clear k3 x0 x1 hb4 HBr hf
      cases bb with
      | true =>
        go_wp2_with fail
        rw [s1]
        clear s1 t0 t1
        refine ⟨⟨i + 1, by rw [HT.out]; rfl, by rw [Int.natCast_add]; rfl, HK.out, HB9.out⟩, ?_⟩
        have h1 := HK.out
        show m - ((i : Int) + 1).toNat < m - ((i : Int)).toNat
        omega
      | false =>
        cases e1 with
        | true =>
          go_wp2_with fail
          rw [s1]
          clear s1 t0 t1
          refine ⟨⟨i + 1, by rw [HT.out]; rfl, by rw [Int.natCast_add]; rfl, HK.out, HB9.out⟩, ?_⟩
          have h1 := HK.out
          show m - ((i : Int) + 1).toNat < m - ((i : Int)).toNat
          omega
        | false =>
          cases q1 with
          | false =>
            go_wp2_with (go_at_call 19; refine (HA.out _ (HB8.out.trans (HB9.out.mono HB8.out.size))).mono ?_; rintro e W10 ⟨rfl, b⟩; have y2 : W10.cell? ⟨f, 0, none⟩ = some (.int .i64 e0) := (blk_cell (blk_below K9.out b) 0).trans rfl; have HB10 := Lib.hid (HB9.out.trans (b.mono HB9.out.size)); clear b HB9)
            rw [s1]
            clear s1 t0 t1
            refine ⟨⟨i + 1, by rw [HT.out]; rfl, by rw [Int.natCast_add]; rfl, HK.out, HB10.out⟩, ?_⟩
            have h1 := HK.out
            show m - ((i : Int) + 1).toNat < m - ((i : Int)).toNat
            omega
          | true =>
            go_wp2_with (first
              | (go_at_call 19; refine (HA.out _ (HB8.out.trans (HB9.out.mono HB8.out.size))).mono ?_; rintro e W10 ⟨rfl, b⟩; have y2 : W10.cell? ⟨f, 0, none⟩ = some (.int .i64 e0) := (blk_cell (blk_below K9.out b) 0).trans rfl; have HB10 := Lib.hid (HB9.out.trans (b.mono HB9.out.size)); clear b HB9)
              | (go_at_call 19; refine (HC.out _ (HB8.out.trans (HB10.out.mono HB8.out.size))).mono ?_; rintro e W11 ⟨rfl, b⟩; have HB11 := Lib.hid (HB10.out.trans (b.mono HB10.out.size)); clear b HB10))
            rw [s1]
            clear s1 t0 t1
            refine ⟨⟨i + 1, by rw [HT.out]; rfl, by rw [Int.natCast_add]; rfl, HK.out, HB11.out⟩, ?_⟩
            have h1 := HK.out
            show m - ((i : Int) + 1).toNat < m - ((i : Int)).toNat
            omega
    · have t1 : (i < m) = False := eq_false hin
      have t0 : ((i : Int) < (m : Int)) = False := eq_false (by omega)
      have e : (l.take i).any (gg p1 p2) = B := by rw [List.take_of_length_le (by omega)]; exact HX.out
      rw [e]
      have HB9 := Lib.hid hb
      clear e hin hi hm hmm hb
      cases B with
      | true =>
        go_wp2_with (first
          | (go_at_call 20; refine (H20.out L1 L2 X1 m1 d1 X2 m2 d2 Z1.out.1 Z2.out.1 Z1.out.2.1 Z2.out.2.1 Z1.out.2.2 Z2.out.2.2 _ (Kd.C_below Y5.out HB9.out) (Kd.C_below Y4.out HB9.out)).mono ?_; rintro e W10 ⟨rfl, b⟩; have HB10 := Lib.hid (HB9.out.trans (b.mono HB9.out.size)); clear b HB9)
          | (go_at_call 14; refine (H14.out _).mono ?_; rintro e W11 ⟨rfl, b⟩; have HB11 := Lib.hid (HB10.out.trans (b.mono HB10.out.size)); clear b HB10))
        exact bodyPost_ret (v := .bool true) (by simp [results, Try.results4, go_sem]) rfl ⟨rfl, HB8.out.trans (HB11.out.mono HB8.out.size)⟩
      | false =>
        go_wp2_with (first
          | (go_at_call 20; refine (H20.out L1 L2 X1 m1 d1 X2 m2 d2 Z1.out.1 Z2.out.1 Z1.out.2.1 Z2.out.2.1 Z1.out.2.2 Z2.out.2.2 _ (Kd.C_below Y5.out HB9.out) (Kd.C_below Y4.out HB9.out)).mono ?_; rintro e W10 ⟨rfl, b⟩; have HB10 := Lib.hid (HB9.out.trans (b.mono HB9.out.size)); clear b HB9)
          | (go_at_call 14; refine (H14.out _).mono ?_; rintro e W11 ⟨rfl, b⟩; have HB11 := Lib.hid (HB10.out.trans (b.mono HB10.out.size)); clear b HB10))
        exact bodyPost_ret (v := .bool true) (by simp [results, Try.results4, go_sem]) rfl ⟨rfl, HB8.out.trans (HB11.out.mono HB8.out.size)⟩
theorem pr_of {L : List S39} (h : Pn 1000000 L) : Pr L := by
  refine ⟨h.gap, fun x hx => ?_, h.len⟩
  have h1 := h.ok (s9 x) (List.mem_map.2 ⟨x, hx, rfl⟩)
  have h2 := h.gap.lt (s9 x) (List.mem_map.2 ⟨x, hx, rfl⟩)
  unfold okB at h1
  simp only [s9] at h1 h2
  exact ⟨by omega, by omega, by omega⟩
theorem pn_of {l : List S32} (hb : Bk l) {L : List S39} (hL : L.map s9 = Iv.bfold [] false (l.map ev)) : Pn 1000000 L := by
  have hlen := bfold_len (l.map ev) [] false
  rw [← hL] at hlen
  simp only [List.length_map, List.length_nil, Nat.zero_add] at hlen
  have hg := hb.gap
  have hhi := bfold_hi (l.map ev) [] false 1099511627777 (fun s hs => by cases hs) (fun e he => by have := fall_lt _ _ hb.fall e he; omega)
  rw [← hL] at hg hhi
  refine ⟨hg.mono (by omega), fun s hs => ?_, by have := hb.1; omega⟩
  have h1 := hg.lt s hs
  have h2 := hhi s hs
  exact ⟨by omega, by omega, by omega, by omega⟩
theorem c4r (l1 : List S32) (A1 : Option Addr) (n1 c1 : Nat) (l2 : List S32) (A2 : Option Addr) (n2 c2 : Nat) (w : World) (hn1 : l1.length = n1) (hc1 : n1 ≤ c1) (hC1 : Kd.C k32 w A1 n1 l1) (hn2 : l2.length = n2) (hc2 : n2 ≤ c2) (hC2 : Kd.C k32 w A2 n2 l2) :
    Calls Try.prog 4 #[.slice A1 n1 c1, .slice A2 n2 c2] w fun e w' => e = .returned (.bool true) ∧ Below w.heap.size w w' := by
  by_cases h1 : (n1 : Int) > 2147483647
  · exact c4_l1 A1 n1 c1 A2 n2 c2 w (decide_eq_true h1)
  by_cases h2 : (n2 : Int) > 2147483647
  · exact c4_l2 A1 n1 c1 A2 n2 c2 w (decide_eq_false h1) (decide_eq_true h2)
  have h1' := decide_eq_false h1
  have h2' := decide_eq_false h2
  subst hn1 hn2
  obtain ⟨r1, hr1, hk1⟩ := back_f l1
  obtain ⟨r2, hr2, hk2⟩ := back_f l2
  have K1 : Hid (∀ W, Below w.heap.size w W → Kd.C k32 W A1 l1.length l1) := Lib.hid (fun W hb => Kd.C_below hC1 hb)
  have K2 : Hid (∀ W, Below w.heap.size w W → Kd.C k32 W A2 l2.length l2) := Lib.hid (fun W hb => Kd.C_below hC2 hb)
  have Ha : ∀ v, r1 = v → Hid (∀ W, Below w.heap.size w W → Calls Try.prog 17 #[.slice A1 l1.length c1] W fun e w' => e = .returned (.bool v) ∧ Below W.heap.size W w') := fun v hv => Lib.hid (fun W hW => spec_Backwards.calls _ A1 c1 l1 v W (K1.out W hW) hc1 (hv ▸ hr1))
  have Hb : ∀ v, r2 = v → Hid (∀ W, Below w.heap.size w W → Calls Try.prog 17 #[.slice A2 l2.length c2] W fun e w' => e = .returned (.bool v) ∧ Below W.heap.size W w') := fun v hv => Lib.hid (fun W hW => spec_Backwards.calls _ A2 c2 l2 v W (K2.out W hW) hc2 (hv ▸ hr2))
  have H14 : Hid (∀ W, Calls Try.prog 14 #[] W fun e w' => e = .returned (.bool true) ∧ Below W.heap.size W w') := Lib.hid (fun W => laws_ivWorks.calls true W ivWorks_f)
  cases e1 : r1 with
  | false => exact c4_n1 A1 _ c1 A2 _ c2 w h1' h2' (Ha _ e1) H14
  | true =>
  cases e2 : r2 with
  | false => exact c4_n2 A1 _ c1 A2 _ c2 w h1' h2' (Ha _ e1) (Hb _ e2) H14
  | true =>
  have b1 := hk1 e1
  have b2 := hk2 e2
  refine c4_y l1 l2 (lv l1) (lv l2) (Iv.bfold [] false (l1.map ev)) (Iv.bfold [] false (l2.map ev)) (setsOv (Iv.bfold [] false (l1.map ev)) (Iv.bfold [] false (l2.map ev))) A1 _ c1 A2 _ c2 w h1' h2' b1.1 b2.1 rfl rfl K1 K2 (Ha _ e1) (Hb _ e2)
    (Lib.hid (fun W hW => c18 l1 A1 _ c1 rfl b1.1 W (K1.out W hW) b1.hev (-1) b1.gap)) (Lib.hid (fun W hW => c18 l2 A2 _ c2 rfl b2.1 W (K2.out W hW) b2.hev (-1) b2.gap))
    (Lib.hid (fun x W hW => (spec_Live.calls _ A1 c1 l1 x _ W (K1.out W hW) hc1 (lv_f l1 b1 x).1).mono (fun e w' q => ⟨q.1, q.2.below⟩))) (Lib.hid (fun x W hW => (spec_Live.calls _ A2 c2 l2 x _ W (K2.out W hW) hc2 (lv_f l2 b2 x).1).mono (fun e w' q => ⟨q.1, q.2.below⟩)))
    (Lib.hid (fun L1 L2 X1 m1 d1 X2 m2 d2 e3 e4 e5 e6 e7 e8 W k1 k2 => ?_)) H14 ?_
  · have := c20 L1 L2 (pr_of (pn_of b1 e3)) (pr_of (pn_of b2 e4)) X1 d1 X2 d2 m1 m2 e5 e6 e7 e8 W k1 k2
    rw [e3, e4] at this
    exact this
  · have hu := both_use l1 l2 b1 b2
    have hs := setsOv_iff (Iv.bfold [] false (l1.map ev)) (Iv.bfold [] false (l2.map ev)) (-1) b1.gap b2.gap
    have : ((l1 ++ l2).any (gg (lv l1) (lv l2)) = true) ↔ setsOv (Iv.bfold [] false (l1.map ev)) (Iv.bfold [] false (l2.map ev)) = true := by
      rw [hs, hu]; rfl
    exact Bool.eq_iff_iff.2 this
end Go.Proofs.Ytmfffeoodlmnbaa.C4
