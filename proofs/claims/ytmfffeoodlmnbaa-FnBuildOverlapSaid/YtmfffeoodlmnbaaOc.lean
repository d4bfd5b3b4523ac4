/- Intervals.Overlaps: the ways ahead of its loop; all of them together. No condition beyond order and size. -/
import Derived.Test.YtmfffeoodlmnbaaOv
namespace Go.Proofs.Ytmfffeoodlmnbaa.Oc
set_option linter.unusedSimpArgs false
set_option linter.unusedVariables false
open Go.RowKit Go.Proofs.YtmfffeoodlmnbaaW.PrintWords Go.Proofs.YtmfffeoodlmnbaaW.PrintLast Go.Proofs.YtmfffeoodlmnbaaW.PrintMore Go.Proofs.Ytmfffeoodlmnbaa.Kit Go.Proofs.Ytmfffeoodlmnbaa.Sp Go.Proofs.Ytmfffeoodlmnbaa.Se Go.Proofs.Ytmfffeoodlmnbaa.In Go.Proofs.Ytmfffeoodlmnbaa.Iv Go.Proofs.Ytmfffeoodlmnbaa.Vp Go.Proofs.Ytmfffeoodlmnbaa.Ov
set_option maxHeartbeats 8000000 in
theorem c35_e1 (A1 : Option Addr) (c1 : Nat) (A2 : Option Addr) (c2 : Nat) (w : World) (n1 n2 : Nat) (h1 : n1 = 0) :
    Calls Try.prog 35 #[.slice A1 n1 c1, .slice A2 n2 c2] w fun e w' => e = .returned (.bool false) ∧ Below w.heap.size w w' := by
  have n1' : ((n1 : Int) == 0) = true := by subst h1; rfl
  clear h1
  go_enter Try.func35, Try.ntmps35
  go_wp2
  exact bodyPost_ret (v := .bool false) (by simp [results, Try.results35, go_sem]) rfl ⟨rfl, Below.refl _ _⟩
set_option maxHeartbeats 8000000 in
theorem c35_e2 (A1 : Option Addr) (c1 : Nat) (A2 : Option Addr) (c2 : Nat) (w : World) (n1 n2 : Nat) (h1 : 0 < n1) (h2 : n2 = 0) :
    Calls Try.prog 35 #[.slice A1 n1 c1, .slice A2 n2 c2] w fun e w' => e = .returned (.bool false) ∧ Below w.heap.size w w' := by
  have n1' : ((n1 : Int) == 0) = false := by apply beq_false_of_ne; omega
  have n2' : ((n2 : Int) == 0) = true := by subst h2; rfl
  clear h1 h2
  go_enter Try.func35, Try.ntmps35
  go_wp2
  exact bodyPost_ret (v := .bool false) (by simp [results, Try.results35, go_sem]) rfl ⟨rfl, Below.refl _ _⟩
set_option maxHeartbeats 8000000 in
set_option maxRecDepth 100000 in
theorem c35_p1 (l1 l2 : List S63) (A1 : Option Addr) (c1 : Nat) (A2 : Option Addr) (c2 : Nat) (w : World) (n1 n2 : Nat) (hn1 : l1.length = n1) (hn2 : l2.length = n2) (hc1 : Kd.C k63 w A1 n1 l1) (hc2 : Kd.C k63 w A2 n2 l2)
    (h1 : 0 < n1) (h2 : 0 < n2) (hl1 : n1 ≤ 4000000) (hl2 : n2 ≤ 4000000)
    (hp1 : (rd_T63 l1 ((n1 : Int) - 1)).f1 ≤ (rd_T63 l2 0).f0) :
    Calls Try.prog 35 #[.slice A1 n1 c1, .slice A2 n2 c2] w fun e w' => e = .returned (.bool false) ∧ Below w.heap.size w w' := by
  obtain ⟨i1, hi1⟩ : ∃ i1 : Int, (n1 : Int) - 1 = i1 := ⟨_, rfl⟩
  obtain ⟨i2, hi2⟩ : ∃ i2 : Int, (n2 : Int) - 1 = i2 := ⟨_, rfl⟩
  rw [hi1] at hp1
  obtain ⟨ada, ea, xa0, xa1⟩ := at_T63 hc1 i1 (by omega) (by omega)
  obtain ⟨ad1, e1, ya0, ya1⟩ := at_T63 hc1 0 (Int.le_refl 0) (by omega)
  obtain ⟨adb, eb, xb0, xb1⟩ := at_T63 hc2 i2 (by omega) (by omega)
  obtain ⟨ad2, e2, yb0, yb1⟩ := at_T63 hc2 0 (Int.le_refl 0) (by omega)
  subst ea
  cases e1
  subst eb
  cases e2
  rw [show ada.add (Int.toNat 0 * 2) = ada from by simp [Addr.add]] at ya0
  rw [show adb.add (Int.toNat 0 * 2) = adb from by simp [Addr.add]] at yb0
  have n1' : ((n1 : Int) == 0) = false := by apply beq_false_of_ne; omega
  have n2' : ((n2 : Int) == 0) = false := by apply beq_false_of_ne; omega
  have s1 : wrap64 i1 = i1 := w64 (by omega) (by omega)
  have s2 : wrap64 i2 = i2 := w64 (by omega) (by omega)
  have z0 : ((0 : Int) ≤ i1) = True := eq_true (by omega)
  have z1 : (i1 < (n1 : Int)) = True := eq_true (by omega)
  have z2 : ((0 : Int) ≤ i2) = True := eq_true (by omega)
  have z3 : (i2 < (n2 : Int)) = True := eq_true (by omega)
  have z4 : (0 < n1) = True := eq_true h1
  have z5 : (0 < n2) = True := eq_true h2
  have t1 : decide ((rd_T63 l1 i1).f1 ≤ (rd_T63 l2 0).f0) = true := by simpa using hp1
  clear hn1 hn2 hc1 hc2 h1 h2 hp1 hl1 hl2
  go_enter Try.func35, Try.ntmps35
  go_wp2_with fail
  go_quiet (fail)
  go_wp2
  exact bodyPost_ret (v := .bool false) (by simp [results, Try.results35, go_sem]) rfl ⟨rfl, below_drewN' (Below.refl _ _) nq⟩
set_option maxHeartbeats 8000000 in
set_option maxRecDepth 100000 in
theorem c35_p2 (l1 l2 : List S63) (A1 : Option Addr) (c1 : Nat) (A2 : Option Addr) (c2 : Nat) (w : World) (n1 n2 : Nat) (hn1 : l1.length = n1) (hn2 : l2.length = n2) (hc1 : Kd.C k63 w A1 n1 l1) (hc2 : Kd.C k63 w A2 n2 l2)
    (h1 : 0 < n1) (h2 : 0 < n2) (hl1 : n1 ≤ 4000000) (hl2 : n2 ≤ 4000000)
    (hp1 : (rd_T63 l2 0).f0 < (rd_T63 l1 ((n1 : Int) - 1)).f1) (hp2 : (rd_T63 l2 ((n2 : Int) - 1)).f1 ≤ (rd_T63 l1 0).f0) :
    Calls Try.prog 35 #[.slice A1 n1 c1, .slice A2 n2 c2] w fun e w' => e = .returned (.bool false) ∧ Below w.heap.size w w' := by
  obtain ⟨i1, hi1⟩ : ∃ i1 : Int, (n1 : Int) - 1 = i1 := ⟨_, rfl⟩
  obtain ⟨i2, hi2⟩ : ∃ i2 : Int, (n2 : Int) - 1 = i2 := ⟨_, rfl⟩
  rw [hi1] at hp1
  rw [hi2] at hp2
  obtain ⟨ada, ea, xa0, xa1⟩ := at_T63 hc1 i1 (by omega) (by omega)
  obtain ⟨ad1, e1, ya0, ya1⟩ := at_T63 hc1 0 (Int.le_refl 0) (by omega)
  obtain ⟨adb, eb, xb0, xb1⟩ := at_T63 hc2 i2 (by omega) (by omega)
  obtain ⟨ad2, e2, yb0, yb1⟩ := at_T63 hc2 0 (Int.le_refl 0) (by omega)
  subst ea
  cases e1
  subst eb
  cases e2
  rw [show ada.add (Int.toNat 0 * 2) = ada from by simp [Addr.add]] at ya0
  rw [show adb.add (Int.toNat 0 * 2) = adb from by simp [Addr.add]] at yb0
  have n1' : ((n1 : Int) == 0) = false := by apply beq_false_of_ne; omega
  have n2' : ((n2 : Int) == 0) = false := by apply beq_false_of_ne; omega
  have s1 : wrap64 i1 = i1 := w64 (by omega) (by omega)
  have s2 : wrap64 i2 = i2 := w64 (by omega) (by omega)
  have z0 : ((0 : Int) ≤ i1) = True := eq_true (by omega)
  have z1 : (i1 < (n1 : Int)) = True := eq_true (by omega)
  have z2 : ((0 : Int) ≤ i2) = True := eq_true (by omega)
  have z3 : (i2 < (n2 : Int)) = True := eq_true (by omega)
  have z4 : (0 < n1) = True := eq_true h1
  have z5 : (0 < n2) = True := eq_true h2
  have t1 : decide ((rd_T63 l1 i1).f1 ≤ (rd_T63 l2 0).f0) = false := by simpa using hp1
  have t2 : decide ((rd_T63 l2 i2).f1 ≤ (rd_T63 l1 0).f0) = true := by simpa using hp2
  clear hn1 hn2 hc1 hc2 h1 h2 hp1 hl1 hl2 hp2
  go_enter Try.func35, Try.ntmps35
  go_wp2_with fail
  go_quiet (fail)
  go_wp2
  exact bodyPost_ret (v := .bool false) (by simp [results, Try.results35, go_sem]) rfl ⟨rfl, below_drewN' (Below.refl _ _) nq⟩
theorem gap_last (l : List S63) (hl : 0 < l.length) : ∀ lo, Gap lo (l.map sp) → ∀ x, hasL (l.map sp) x → x < (rd_T63 l ((l.length : Int) - 1)).f1 := by
  induction l with
  | nil => simp at hl
  | cons a l ih =>
    intro lo h x hx
    rw [List.map_cons] at h hx
    cases l with
    | nil =>
      rcases (hasL_cons _ _ _).1 hx with hx | hx
      · exact hx.2
      · exact absurd hx (hasL_nil x)
    | cons b l =>
      have e : rd_T63 (a :: b :: l) (((a :: b :: l).length : Int) - 1) = rd_T63 (b :: l) (((b :: l).length : Int) - 1) := by
        unfold rd_T63
        have q : (((a :: b :: l).length : Int) - 1).toNat = (((b :: l).length : Int) - 1).toNat + 1 := by simp only [List.length_cons]; omega
        rw [q]; rfl
      rw [e]
      rcases (hasL_cons _ _ _).1 hx with hx | hx
      · have h1 := ih (by simp) _ h.2.2 b.f0 ⟨sp b, by simp, ⟨Int.le_refl _, h.2.2.2.1⟩⟩
        have h2 := h.2.2.1
        have h3 := hx.2
        simp only [sp] at h2 h3
        omega
      · exact ih (by simp) _ h.2.2 x hx
theorem gap_first (l : List S63) (hl : 0 < l.length) (lo : Int) (h : Gap lo (l.map sp)) (x : Int) (hx : hasL (l.map sp) x) : (rd_T63 l 0).f0 ≤ x := by
  cases l with
  | nil => simp at hl
  | cons a l =>
    rw [List.map_cons] at h hx
    have e : rd_T63 (a :: l) 0 = a := rfl
    rw [e]
    rcases (hasL_cons _ _ _).1 hx with hx | hx
    · exact hx.1
    · have h1 := hasL_lo h.2.2 hx
      have h2 := h.2.1
      simp only [sp] at h1 h2
      omega
theorem sv_false (a b : List Iv.Sp) (lo : Int) (ha : Gap lo a) (hb : Gap lo b) (h : ¬ Both a b) : setsOv a b = false := by
  cases e : setsOv a b with
  | false => rfl
  | true => exact absurd ((setsOv_iff a b lo ha hb).1 e) h
theorem c35 (l1 l2 : List S63) (A1 : Option Addr) (c1 : Nat) (A2 : Option Addr) (c2 : Nat) (w : World) (hc1 : Kd.C k63 w A1 l1.length l1) (hc2 : Kd.C k63 w A2 l2.length l2)
    (hl1 : l1.length ≤ 4000000) (hl2 : l2.length ≤ 4000000) (lo : Int) (hg1 : Gap lo (l1.map sp)) (hg2 : Gap lo (l2.map sp)) (hb1 : Bd l1) (hb2 : Bd l2) :
    Calls Try.prog 35 #[.slice A1 l1.length c1, .slice A2 l2.length c2] w fun e w' => e = .returned (.bool (setsOv (l1.map sp) (l2.map sp))) ∧ Below w.heap.size w w' := by
  by_cases h1 : l1.length = 0
  · rw [sv_false _ _ lo hg1 hg2 (by rw [List.length_eq_zero_iff.1 h1, both_comm]; exact both_nil _)]
    exact c35_e1 A1 c1 A2 c2 w _ _ h1
  · by_cases h2 : l2.length = 0
    · rw [sv_false _ _ lo hg1 hg2 (by rw [List.length_eq_zero_iff.1 h2]; exact both_nil _)]
      exact c35_e2 A1 c1 A2 c2 w _ _ (by omega) h2
    · by_cases h3 : (rd_T63 l1 ((l1.length : Int) - 1)).f1 ≤ (rd_T63 l2 0).f0
      · rw [sv_false _ _ lo hg1 hg2 (fun ⟨x, p, q⟩ => by have := gap_last l1 (by omega) lo hg1 x p; have := gap_first l2 (by omega) lo hg2 x q; omega)]
        exact c35_p1 l1 l2 A1 c1 A2 c2 w _ _ rfl rfl hc1 hc2 (by omega) (by omega) hl1 hl2 h3
      · by_cases h4 : (rd_T63 l2 ((l2.length : Int) - 1)).f1 ≤ (rd_T63 l1 0).f0
        · rw [sv_false _ _ lo hg1 hg2 (fun ⟨x, p, q⟩ => by have := gap_last l2 (by omega) lo hg2 x q; have := gap_first l1 (by omega) lo hg1 x p; omega)]
          exact c35_p2 l1 l2 A1 c1 A2 c2 w _ _ rfl rfl hc1 hc2 (by omega) (by omega) hl1 hl2 (by omega) h4
        · exact c35_loop l1 l2 A1 c1 A2 c2 w _ _ rfl rfl hc1 hc2 (by omega) (by omega) hl1 hl2 hb1 hb2 (by omega) (by omega)
end Go.Proofs.Ytmfffeoodlmnbaa.Oc
