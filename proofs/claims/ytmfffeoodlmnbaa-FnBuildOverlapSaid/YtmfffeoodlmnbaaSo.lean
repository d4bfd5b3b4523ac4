/- impl.SetsOverlap: what it returns. The walk. -/
import Derived.Test.YtmfffeoodlmnbaaOc
import Derived.Test.YtmfffeoodlmnbaaPj
namespace Go.Proofs.Ytmfffeoodlmnbaa.So
set_option linter.unusedSimpArgs false
set_option linter.unusedVariables false
open Go.RowKit Go.Proofs.YtmfffeoodlmnbaaW.PrintWords Go.Proofs.YtmfffeoodlmnbaaW.PrintLast Go.Proofs.YtmfffeoodlmnbaaW.PrintMore Go.Proofs.Ytmfffeoodlmnbaa.Kit Go.Proofs.Ytmfffeoodlmnbaa.Sp Go.Proofs.Ytmfffeoodlmnbaa.Se Go.Proofs.Ytmfffeoodlmnbaa.In Go.Proofs.Ytmfffeoodlmnbaa.Iv Go.Proofs.Ytmfffeoodlmnbaa.Vp Go.Proofs.Ytmfffeoodlmnbaa.Ov Go.Proofs.Ytmfffeoodlmnbaa.Oc Go.Proofs.Ytmfffeoodlmnbaa.Pj
/-- two sequences of spans in order: what the statements ask of them. -/
structure Pr (l : List S39) : Prop where
  gap : Gap (-2305843009213693953) (l.map s9)
  ok : ∀ x ∈ l, okS x
  len : l.length ≤ 1000000
theorem in_c (l : List S39) (hl : l.length ≤ 1000000) (A : Option Addr) (c : Nat) (hc : l.length ≤ c) (w : World) (hC : Kd.C k39 w A l.length l) (r : List S63) (hr : l.map cv = r) :
    Calls Try.prog 28 #[.slice A l.length c] w fun e w' => ∃ (A' : Option Addr) (c' : Nat), e = .returned (.slice A' r.length c') ∧ Kd.C k63 w' A' r.length r ∧ Below w.heap.size w w' := by
  refine (impl_in.calls (l.length + 1) A c l _ w hC hc (in_f l (by omega))).mono ?_
  rintro e w' ⟨v, rfl, hR, hb⟩
  obtain ⟨A', c', rfl, _, hC'⟩ := Kd.R_reads hR
  rw [hr] at hC' ⊢
  exact ⟨A', c', rfl, hC', hb⟩
set_option maxHeartbeats 8000000 in
theorem c20 (l1 l2 : List S39) (h1 : Pr l1) (h2 : Pr l2) (A1 : Option Addr) (c1 : Nat) (A2 : Option Addr) (c2 : Nat) (n1 n2 : Nat) (hn1 : l1.length = n1) (hn2 : l2.length = n2) (hc1 : n1 ≤ c1) (hc2 : n2 ≤ c2) (w : World) (hC1 : Kd.C k39 w A1 n1 l1) (hC2 : Kd.C k39 w A2 n2 l2) :
    Calls Try.prog 20 #[.slice A1 n1 c1, .slice A2 n2 c2] w fun e w' => e = .returned (.bool (setsOv (l1.map s9) (l2.map s9))) ∧ Below w.heap.size w w' := by
  subst hn1 hn2
  obtain ⟨r1, hr1⟩ : ∃ r, l1.map cv = r := ⟨_, rfl⟩
  obtain ⟨r2, hr2⟩ : ∃ r, l2.map cv = r := ⟨_, rfl⟩
  have H1 := Lib.hid (in_c l1 h1.len A1 c1 hc1 w hC1 r1 hr1)
  have H2 : Hid (∀ W, Below w.heap.size w W → _) := Lib.hid (fun W hb => in_c l2 h2.len A2 c2 hc2 W (Kd.C_below hC2 hb) r2 hr2)
  have H3 : Hid (∀ W B1 d1 B2 d2, Kd.C k63 W B1 r1.length r1 → Kd.C k63 W B2 r2.length r2 → _) := Lib.hid (fun W B1 d1 B2 d2 k1 k2 => c35 r1 r2 B1 d1 B2 d2 W k1 k2 (by rw [← hr1, List.length_map]; have := h1.len; omega) (by rw [← hr2, List.length_map]; have := h2.len; omega) _ (by rw [← hr1, sp_cv]; exact h1.gap) (by rw [← hr2, sp_cv]; exact h2.gap) (by rw [← hr1]; exact bd_of l1 h1.ok) (by rw [← hr2]; exact bd_of l2 h2.ok))
  rw [← sp_cv l1, ← sp_cv l2, hr1, hr2]
  generalize l1.length = n1 at *
  generalize l2.length = n2 at *
  generalize r1.length = m1 at *
  generalize r2.length = m2 at *
  generalize setsOv (r1.map sp) (r2.map sp) = R at *
  clear h1 h2 hC1 hC2 hr1 hr2 hc1 hc2
  go_enter Try.func20, Try.ntmps20
  go_wp2_with (first
    | (go_at_call 28; refine H1.out.mono ?_; rintro e W1 ⟨B1, d1, rfl, k1, b1⟩; have K1 := Lib.hid k1; have HB := Lib.hid b1; clear H1 k1 b1)
    | (go_at_call 28; refine (H2.out _ HB.out).mono ?_; rintro e W2 ⟨B2, d2, rfl, k2, b2⟩; have K2 := Lib.hid (Kd.C_below K1.out b2); have K3 := Lib.hid k2; have HB2 := Lib.hid (HB.out.trans (b2.mono HB.out.size)); clear H2 K1 HB k2 b2)
    | (go_at_call 35; refine (H3.out _ _ _ _ _ K2.out K3.out).mono ?_; rintro e W3 ⟨rfl, b3⟩; have HB3 := Lib.hid (HB2.out.trans (b3.mono HB2.out.size)); clear b3))
  exact bodyPost_ret (v := .bool R) (by simp [results, Try.results20, go_sem]) rfl ⟨rfl, HB3.out⟩
end Go.Proofs.Ytmfffeoodlmnbaa.So
