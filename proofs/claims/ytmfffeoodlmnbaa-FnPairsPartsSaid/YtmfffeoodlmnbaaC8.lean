/- laws.FnMergeOrder, FnMergeOrdered, FnMergeThree: they return true. The walks. -/
import Derived.Test.YtmfffeoodlmnbaaMw
import Derived.Test.YtmfffeoodlmnbaaPk
namespace Go.Proofs.Ytmfffeoodlmnbaa.C8
set_option linter.unusedSimpArgs false
set_option linter.unusedVariables false
open Go.RowKit Go.Proofs.YtmfffeoodlmnbaaW.PrintWords Go.Proofs.YtmfffeoodlmnbaaW.PrintLast Go.Proofs.YtmfffeoodlmnbaaW.PrintMore Go.Proofs.Ytmfffeoodlmnbaa.Kit Go.Proofs.Ytmfffeoodlmnbaa.Sp Go.Proofs.Ytmfffeoodlmnbaa.Se Go.Proofs.Ytmfffeoodlmnbaa.In Go.Proofs.Ytmfffeoodlmnbaa.Iv Go.Proofs.Ytmfffeoodlmnbaa.Vp Go.Proofs.Ytmfffeoodlmnbaa.Ov Go.Proofs.Ytmfffeoodlmnbaa.Mi Go.Proofs.Ytmfffeoodlmnbaa.Mr Go.Proofs.Ytmfffeoodlmnbaa.Pj Go.Proofs.Ytmfffeoodlmnbaa.Mw Go.Proofs.Ytmfffeoodlmnbaa.Pk
def MG (w W : World) (R : List Iv.Sp) (e : Ending) (w' : World) : Prop := ∃ (A : Option Addr) (n c : Nat) (L : List S39), e = .returned (.slice A n c) ∧ L.length = n ∧ n ≤ c ∧ L.length ≤ 8000000 ∧ Kd.C k39 w' A n L ∧ L.map s9 = R ∧ Below w.heap.size w w' ∧ Below W.heap.size W w'
theorem mg (w : World) (N M : Nat) (hN : N ≤ 4000000) (hM : M ≤ 4000000) (l1 l2 : List S39) (h1 : Pn N l1) (h2 : Pn M l2) (A1 : Option Addr) (n1 c1 : Nat) (A2 : Option Addr) (n2 c2 : Nat) (hn1 : l1.length = n1) (hn2 : l2.length = n2) (hc1 : n1 ≤ c1) (hc2 : n2 ≤ c2) (W : World) (hb : Below w.heap.size w W) (hC1 : Kd.C k39 W A1 n1 l1) (hC2 : Kd.C k39 W A2 n2 l2) (R : List Iv.Sp) (hR : mergeL (l1.map s9) (l2.map s9) = R) :
    Calls Try.prog 16 #[.slice A1 n1 c1, .slice A2 n2 c2] W (MG w W R) := by
  refine (c16 l1 l2 ⟨h1.gap, h1.ok, Nat.le_trans h1.len hN⟩ ⟨h2.gap, h2.ok, Nat.le_trans h2.len hM⟩ A1 n1 c1 A2 n2 c2 hn1 hn2 hc1 hc2 W hC1 hC2).mono ?_
  rintro e w' ⟨A, n, c, L, rfl, q1, q2, q3, q4, q5⟩
  have := (h1.merge h2 q4).len
  exact ⟨A, n, c, L, rfl, q1, q2, by omega, q3, q4.trans hR, hb.trans (q5.mono hb.size), q5⟩
theorem same_c (w : World) (L M : List S39) (A1 : Option Addr) (n1 c1 : Nat) (A2 : Option Addr) (n2 c2 : Nat) (hn1 : L.length = n1) (hn2 : M.length = n2) (hc1 : n1 ≤ c1) (hc2 : n2 ≤ c2) (hl : L.length ≤ 8000000) (W : World) (hb : Below w.heap.size w W) (hC1 : Kd.C k39 W A1 n1 L) (hC2 : Kd.C k39 W A2 n2 M) (R : List Iv.Sp) (h1 : L.map s9 = R) (h2 : M.map s9 = R) :
    Calls Try.prog 22 #[.slice A1 n1 c1, .slice A2 n2 c2] W fun e w' => e = .returned (.bool true) ∧ Below w.heap.size w w' := by
  obtain rfl : L = M := s9_inj L M (h1.trans h2.symm)
  subst hn1 hn2
  refine (spec_Same.calls (L.length + 1) A1 c1 L A2 c2 L true W hC1 hc1 hC2 hc2 (same_f L (by omega))).mono ?_
  rintro e w' ⟨rfl, ⟨k, rfl⟩⟩
  exact ⟨rfl, below_drewN' hb k⟩
theorem ordered_c (w : World) (N : Nat) (hN : N ≤ 8000000) (L : List S39) (h : Pn N L) (A1 : Option Addr) (n1 c1 : Nat) (hn1 : L.length = n1) (hc1 : n1 ≤ c1) (W : World) (hb : Below w.heap.size w W) (hC1 : Kd.C k39 W A1 n1 L) :
    Calls Try.prog 26 #[.slice A1 n1 c1] W fun e w' => e = .returned (.bool true) ∧ Below w.heap.size w w' := by
  subst hn1
  refine (spec_Ordered.calls (L.length + 1) A1 c1 L true W hC1 hc1 (ordered_f L (by have := h.len; omega) _ h.gap h.ok)).mono ?_
  rintro e w' ⟨rfl, hb2⟩
  exact ⟨rfl, hb.trans (hb2.mono hb.size)⟩
theorem proper_n (l : List S39) (h : Gap (-2305843009213693953) (l.map s9)) (h2 : ∀ x ∈ l, okS x) (h3 : l.length ≤ 1000000) : Pn 1000000 l := ⟨h, fun s hs => by
  obtain ⟨x, hx, rfl⟩ := List.mem_map.1 hs
  have := h2 x hx
  unfold okS at this
  unfold okB
  simp only [s9]
  omega, h3⟩
theorem c8_l1 (A1 : Option Addr) (n1 c1 : Nat) (A2 : Option Addr) (n2 c2 : Nat) (w : World) (h1 : decide ((n1 : Int) > 2147483647) = true) :
    Calls Try.prog 8 #[.slice A1 n1 c1, .slice A2 n2 c2] w fun e w' => e = .returned (.bool true) ∧ Below w.heap.size w w' := by
  go_enter Try.func8, Try.ntmps8
  go_wp2
  exact bodyPost_ret (v := .bool true) (by simp [results, Try.results8, go_sem]) rfl ⟨rfl, Below.refl _ _⟩
theorem c8_l2 (A1 : Option Addr) (n1 c1 : Nat) (A2 : Option Addr) (n2 c2 : Nat) (w : World) (h1 : decide ((n1 : Int) > 2147483647) = false) (h2 : decide ((n2 : Int) > 2147483647) = true) :
    Calls Try.prog 8 #[.slice A1 n1 c1, .slice A2 n2 c2] w fun e w' => e = .returned (.bool true) ∧ Below w.heap.size w w' := by
  go_enter Try.func8, Try.ntmps8
  go_wp2
  exact bodyPost_ret (v := .bool true) (by simp [results, Try.results8, go_sem]) rfl ⟨rfl, Below.refl _ _⟩
set_option maxHeartbeats 8000000 in
theorem c8_1 (A1 : Option Addr) (n1 c1 : Nat) (A2 : Option Addr) (n2 c2 : Nat) (w : World) (h1 : decide ((n1 : Int) > 2147483647) = false) (h2 : decide ((n2 : Int) > 2147483647) = false)
    (P1 : Hid (∀ W, Below w.heap.size w W → Calls Try.prog 13 #[.slice A1 n1 c1] W fun e w' => e = .returned (.bool false) ∧ Below w.heap.size w w'))
    (He : Hid (∀ W, Below w.heap.size w W → Calls Try.prog 14 #[] W fun e w' => e = .returned (.bool true) ∧ Below w.heap.size w w')) :
    Calls Try.prog 8 #[.slice A1 n1 c1, .slice A2 n2 c2] w fun e w' => e = .returned (.bool true) ∧ Below w.heap.size w w' := by
  have HB0 := Lib.hid (Below.refl w.heap.size w)
  go_enter Try.func8, Try.ntmps8
  go_wp2_with (first
    | (go_at_call 13; refine (P1.out _ HB0.out).mono ?_; rintro e W1 ⟨rfl, b⟩; have HB1 := Lib.hid b; clear b HB0)
    | (go_at_call 14; refine (He.out _ HB1.out).mono ?_; rintro e W2 ⟨rfl, b⟩; have HB2 := Lib.hid b; clear b HB1))
  exact bodyPost_ret (v := .bool true) (by simp [results, Try.results8, go_sem]) rfl ⟨rfl, HB2.out⟩
set_option maxHeartbeats 8000000 in
theorem c8_2 (A1 : Option Addr) (n1 c1 : Nat) (A2 : Option Addr) (n2 c2 : Nat) (w : World) (h1 : decide ((n1 : Int) > 2147483647) = false) (h2 : decide ((n2 : Int) > 2147483647) = false)
    (P1 : Hid (∀ W, Below w.heap.size w W → Calls Try.prog 13 #[.slice A1 n1 c1] W fun e w' => e = .returned (.bool true) ∧ Below w.heap.size w w'))
    (P2 : Hid (∀ W, Below w.heap.size w W → Calls Try.prog 13 #[.slice A2 n2 c2] W fun e w' => e = .returned (.bool false) ∧ Below w.heap.size w w'))
    (He : Hid (∀ W, Below w.heap.size w W → Calls Try.prog 14 #[] W fun e w' => e = .returned (.bool true) ∧ Below w.heap.size w w')) :
    Calls Try.prog 8 #[.slice A1 n1 c1, .slice A2 n2 c2] w fun e w' => e = .returned (.bool true) ∧ Below w.heap.size w w' := by
  have HB0 := Lib.hid (Below.refl w.heap.size w)
  go_enter Try.func8, Try.ntmps8
  go_wp2_with (first
    | (go_at_call 13; refine (P1.out _ HB0.out).mono ?_; rintro e W1 ⟨rfl, b⟩; have HB1 := Lib.hid b; clear b HB0)
    | (go_at_call 13; refine (P2.out _ HB1.out).mono ?_; rintro e W2 ⟨rfl, b⟩; have HB2 := Lib.hid b; clear b HB1)
    | (go_at_call 14; refine (He.out _ HB2.out).mono ?_; rintro e W3 ⟨rfl, b⟩; have HB3 := Lib.hid b; clear b HB2))
  exact bodyPost_ret (v := .bool true) (by simp [results, Try.results8, go_sem]) rfl ⟨rfl, HB3.out⟩
set_option maxHeartbeats 8000000 in
theorem c8_all (l1 : List S39) (l2 : List S39) (A1 : Option Addr) (n1 c1 : Nat) (A2 : Option Addr) (n2 c2 : Nat) (w : World) (h1 : decide ((n1 : Int) > 2147483647) = false) (h2 : decide ((n2 : Int) > 2147483647) = false) (hn1 : l1.length = n1) (hc1 : n1 ≤ c1) (hC1 : Kd.C k39 w A1 n1 l1) (q1 : Pn 1000000 l1) (hn2 : l2.length = n2) (hc2 : n2 ≤ c2) (hC2 : Kd.C k39 w A2 n2 l2) (q2 : Pn 1000000 l2)
    (P1 : Hid (∀ W, Below w.heap.size w W → Calls Try.prog 13 #[.slice A1 n1 c1] W fun e w' => e = .returned (.bool true) ∧ Below w.heap.size w w'))
    (P2 : Hid (∀ W, Below w.heap.size w W → Calls Try.prog 13 #[.slice A2 n2 c2] W fun e w' => e = .returned (.bool true) ∧ Below w.heap.size w w'))
    (He : Hid (∀ W, Below w.heap.size w W → Calls Try.prog 14 #[] W fun e w' => e = .returned (.bool true) ∧ Below w.heap.size w w')) :
    Calls Try.prog 8 #[.slice A1 n1 c1, .slice A2 n2 c2] w fun e w' => e = .returned (.bool true) ∧ Below w.heap.size w w' := by
  have HB0 := Lib.hid (Below.refl w.heap.size w)
  have K1 : Hid (∀ W, Below w.heap.size w W → Kd.C k39 W A1 n1 l1) := Lib.hid (fun W hb => Kd.C_below hC1 hb)
  have K2 : Hid (∀ W, Below w.heap.size w W → Kd.C k39 W A2 n2 l2) := Lib.hid (fun W hb => Kd.C_below hC2 hb)
  have M1 : Hid (∀ W, Below w.heap.size w W → Calls Try.prog 16 #[.slice A1 n1 c1, .slice A2 n2 c2] W (MG w W (mergeL (l1.map s9) (l2.map s9)))) := Lib.hid (fun W hb => mg w _ _ (by omega) (by omega) l1 l2 q1 q2 A1 n1 c1 A2 n2 c2 hn1 hn2 hc1 hc2 W hb (K1.out W hb) (K2.out W hb) _ rfl)
  have M2 : Hid (∀ W, Below w.heap.size w W → Calls Try.prog 16 #[.slice A2 n2 c2, .slice A1 n1 c1] W (MG w W (mergeL (l1.map s9) (l2.map s9)))) := Lib.hid (fun W hb => mg w _ _ (by omega) (by omega) l2 l1 q2 q1 A2 n2 c2 A1 n1 c1 hn2 hn1 hc2 hc1 W hb (K2.out W hb) (K1.out W hb) _ (mergeL_comm _ _ _ q2.gap q1.gap))
  generalize mergeL (l1.map s9) (l2.map s9) = R at M1 M2
  clear hn1 hc1 hC1 q1 K1 hn2 hc2 hC2 q2 K2
  go_enter Try.func8, Try.ntmps8
  go_wp2_with (first
    | (go_at_call 13; refine (P1.out _ HB0.out).mono ?_; rintro e W1 ⟨rfl, b⟩; have HB1 := Lib.hid b; clear b HB0)
    | (go_at_call 13; refine (P2.out _ HB1.out).mono ?_; rintro e W2 ⟨rfl, b⟩; have HB2 := Lib.hid b; clear b HB1)
    | (go_at_call 16; refine (M1.out _ HB2.out).mono ?_; rintro e W3 ⟨X, nX, cX, L, rfl, q1, q2, q3, q4, q5, b, _⟩; have HB3 := Lib.hid b; have Z1 := Lib.hid (And.intro q1 (And.intro q2 (And.intro q3 q5))); have Z2 := Lib.hid q4; clear b q1 q2 q3 q4 q5 HB2 M1)
    | (go_at_call 16; refine (M2.out _ HB3.out).mono ?_; rintro e W4 ⟨Y, nY, cY, M, rfl, q1, q2, q3, q4, q5, b, b'⟩; have HB4 := Lib.hid b; have Z5 := Lib.hid (Kd.C_below Z2.out b'); have Z3 := Lib.hid (And.intro q1 (And.intro q2 (And.intro q3 q5))); have Z4 := Lib.hid q4; clear b b' q1 q2 q3 q4 q5 M2)
    | (go_at_call 22; refine (same_c w L M X nX cX Y nY cY Z1.out.1 Z3.out.1 Z1.out.2.1 Z3.out.2.1 Z1.out.2.2.1 _ HB4.out Z5.out Z4.out R Z1.out.2.2.2 Z3.out.2.2.2).mono ?_; rintro e W5 ⟨rfl, b⟩; have HB5 := Lib.hid b; clear b)
    | (go_at_call 14; refine (He.out _ HB5.out).mono ?_; rintro e W6 ⟨rfl, b⟩; have HB6 := Lib.hid b; clear b HB5))
  exact bodyPost_ret (v := .bool true) (by simp [results, Try.results8, go_sem]) rfl ⟨rfl, HB6.out⟩
theorem c8 (l1 : List S39) (l2 : List S39) (A1 : Option Addr) (n1 c1 : Nat) (A2 : Option Addr) (n2 c2 : Nat) (w : World) (hn1 : l1.length = n1) (hc1 : n1 ≤ c1) (hC1 : Kd.C k39 w A1 n1 l1) (hn2 : l2.length = n2) (hc2 : n2 ≤ c2) (hC2 : Kd.C k39 w A2 n2 l2) :
    Calls Try.prog 8 #[.slice A1 n1 c1, .slice A2 n2 c2] w fun e w' => e = .returned (.bool true) ∧ Below w.heap.size w w' := by
  by_cases h1 : (n1 : Int) > 2147483647
  · exact c8_l1 A1 n1 c1 A2 n2 c2 w (decide_eq_true h1)
  have g1 : decide ((n1 : Int) > 2147483647) = false := decide_eq_false h1
  by_cases h2 : (n2 : Int) > 2147483647
  · exact c8_l2 A1 n1 c1 A2 n2 c2 w g1 (decide_eq_true h2)
  have g2 : decide ((n2 : Int) > 2147483647) = false := decide_eq_false h2
  obtain ⟨p1, e1, f1⟩ := proper_f l1 (by omega)
  obtain ⟨p2, e2, f2⟩ := proper_f l2 (by omega)
  subst hn1 hn2
  have Ha1 : ∀ v, p1 = v → Hid (∀ W, Below w.heap.size w W → Calls Try.prog 13 #[.slice A1 l1.length c1] W fun e w' => e = .returned (.bool v) ∧ Below w.heap.size w w') := fun v hv => Lib.hid (fun W hb => (spec_Proper.calls _ A1 c1 l1 v W (Kd.C_below hC1 hb) hc1 (hv ▸ e1)).mono (fun e w' q => ⟨q.1, hb.trans (q.2.mono hb.size)⟩))
  have Ha2 : ∀ v, p2 = v → Hid (∀ W, Below w.heap.size w W → Calls Try.prog 13 #[.slice A2 l2.length c2] W fun e w' => e = .returned (.bool v) ∧ Below w.heap.size w w') := fun v hv => Lib.hid (fun W hb => (spec_Proper.calls _ A2 c2 l2 v W (Kd.C_below hC2 hb) hc2 (hv ▸ e2)).mono (fun e w' q => ⟨q.1, hb.trans (q.2.mono hb.size)⟩))
  have He : Hid (∀ W, Below w.heap.size w W → Calls Try.prog 14 #[] W fun e w' => e = .returned (.bool true) ∧ Below w.heap.size w w') := Lib.hid (fun W hb => (laws_ivWorks.calls true W ivWorks_f).mono (fun e w' q => ⟨q.1, hb.trans (q.2.mono hb.size)⟩))
  cases k1 : p1 with
  | false => exact c8_1 A1 _ c1 A2 _ c2 w g1 g2 (Ha1 _ k1) He
  | true =>
  cases k2 : p2 with
  | false => exact c8_2 A1 _ c1 A2 _ c2 w g1 g2 (Ha1 _ k1) (Ha2 _ k2) He
  | true =>
  obtain ⟨a1, b1, m1⟩ := f1 k1
  obtain ⟨a2, b2, m2⟩ := f2 k2
  exact c8_all l1 l2 A1 _ c1 A2 _ c2 w g1 g2 rfl hc1 hC1 (proper_n l1 a1 b1 m1) rfl hc2 hC2 (proper_n l2 a2 b2 m2) (Ha1 _ k1) (Ha2 _ k2) He
theorem c8r (l1 : List S39) (A1 : Option Addr) (n1 c1 : Nat) (l2 : List S39) (A2 : Option Addr) (n2 c2 : Nat) (w : World) (hn1 : l1.length = n1) (hc1 : n1 ≤ c1) (hC1 : Kd.C k39 w A1 n1 l1) (hn2 : l2.length = n2) (hc2 : n2 ≤ c2) (hC2 : Kd.C k39 w A2 n2 l2) :
    Calls Try.prog 8 #[.slice A1 n1 c1, .slice A2 n2 c2] w fun e w' => e = .returned (.bool true) ∧ Below w.heap.size w w' := c8 l1 l2 A1 n1 c1 A2 n2 c2 w hn1 hc1 hC1 hn2 hc2 hC2
theorem c9_l1 (A1 : Option Addr) (n1 c1 : Nat) (A2 : Option Addr) (n2 c2 : Nat) (w : World) (h1 : decide ((n1 : Int) > 2147483647) = true) :
    Calls Try.prog 9 #[.slice A1 n1 c1, .slice A2 n2 c2] w fun e w' => e = .returned (.bool true) ∧ Below w.heap.size w w' := by
  go_enter Try.func9, Try.ntmps9
  go_wp2
  exact bodyPost_ret (v := .bool true) (by simp [results, Try.results9, go_sem]) rfl ⟨rfl, Below.refl _ _⟩
theorem c9_l2 (A1 : Option Addr) (n1 c1 : Nat) (A2 : Option Addr) (n2 c2 : Nat) (w : World) (h1 : decide ((n1 : Int) > 2147483647) = false) (h2 : decide ((n2 : Int) > 2147483647) = true) :
    Calls Try.prog 9 #[.slice A1 n1 c1, .slice A2 n2 c2] w fun e w' => e = .returned (.bool true) ∧ Below w.heap.size w w' := by
  go_enter Try.func9, Try.ntmps9
  go_wp2
  exact bodyPost_ret (v := .bool true) (by simp [results, Try.results9, go_sem]) rfl ⟨rfl, Below.refl _ _⟩
set_option maxHeartbeats 8000000 in
theorem c9_1 (A1 : Option Addr) (n1 c1 : Nat) (A2 : Option Addr) (n2 c2 : Nat) (w : World) (h1 : decide ((n1 : Int) > 2147483647) = false) (h2 : decide ((n2 : Int) > 2147483647) = false)
    (P1 : Hid (∀ W, Below w.heap.size w W → Calls Try.prog 13 #[.slice A1 n1 c1] W fun e w' => e = .returned (.bool false) ∧ Below w.heap.size w w'))
    (He : Hid (∀ W, Below w.heap.size w W → Calls Try.prog 14 #[] W fun e w' => e = .returned (.bool true) ∧ Below w.heap.size w w')) :
    Calls Try.prog 9 #[.slice A1 n1 c1, .slice A2 n2 c2] w fun e w' => e = .returned (.bool true) ∧ Below w.heap.size w w' := by
  have HB0 := Lib.hid (Below.refl w.heap.size w)
  go_enter Try.func9, Try.ntmps9
  go_wp2_with (first
    | (go_at_call 13; refine (P1.out _ HB0.out).mono ?_; rintro e W1 ⟨rfl, b⟩; have HB1 := Lib.hid b; clear b HB0)
    | (go_at_call 14; refine (He.out _ HB1.out).mono ?_; rintro e W2 ⟨rfl, b⟩; have HB2 := Lib.hid b; clear b HB1))
  exact bodyPost_ret (v := .bool true) (by simp [results, Try.results9, go_sem]) rfl ⟨rfl, HB2.out⟩
set_option maxHeartbeats 8000000 in
theorem c9_2 (A1 : Option Addr) (n1 c1 : Nat) (A2 : Option Addr) (n2 c2 : Nat) (w : World) (h1 : decide ((n1 : Int) > 2147483647) = false) (h2 : decide ((n2 : Int) > 2147483647) = false)
    (P1 : Hid (∀ W, Below w.heap.size w W → Calls Try.prog 13 #[.slice A1 n1 c1] W fun e w' => e = .returned (.bool true) ∧ Below w.heap.size w w'))
    (P2 : Hid (∀ W, Below w.heap.size w W → Calls Try.prog 13 #[.slice A2 n2 c2] W fun e w' => e = .returned (.bool false) ∧ Below w.heap.size w w'))
    (He : Hid (∀ W, Below w.heap.size w W → Calls Try.prog 14 #[] W fun e w' => e = .returned (.bool true) ∧ Below w.heap.size w w')) :
    Calls Try.prog 9 #[.slice A1 n1 c1, .slice A2 n2 c2] w fun e w' => e = .returned (.bool true) ∧ Below w.heap.size w w' := by
  have HB0 := Lib.hid (Below.refl w.heap.size w)
  go_enter Try.func9, Try.ntmps9
  go_wp2_with (first
    | (go_at_call 13; refine (P1.out _ HB0.out).mono ?_; rintro e W1 ⟨rfl, b⟩; have HB1 := Lib.hid b; clear b HB0)
    | (go_at_call 13; refine (P2.out _ HB1.out).mono ?_; rintro e W2 ⟨rfl, b⟩; have HB2 := Lib.hid b; clear b HB1)
    | (go_at_call 14; refine (He.out _ HB2.out).mono ?_; rintro e W3 ⟨rfl, b⟩; have HB3 := Lib.hid b; clear b HB2))
  exact bodyPost_ret (v := .bool true) (by simp [results, Try.results9, go_sem]) rfl ⟨rfl, HB3.out⟩
set_option maxHeartbeats 8000000 in
theorem c9_all (l1 : List S39) (l2 : List S39) (A1 : Option Addr) (n1 c1 : Nat) (A2 : Option Addr) (n2 c2 : Nat) (w : World) (h1 : decide ((n1 : Int) > 2147483647) = false) (h2 : decide ((n2 : Int) > 2147483647) = false) (hn1 : l1.length = n1) (hc1 : n1 ≤ c1) (hC1 : Kd.C k39 w A1 n1 l1) (q1 : Pn 1000000 l1) (hn2 : l2.length = n2) (hc2 : n2 ≤ c2) (hC2 : Kd.C k39 w A2 n2 l2) (q2 : Pn 1000000 l2)
    (P1 : Hid (∀ W, Below w.heap.size w W → Calls Try.prog 13 #[.slice A1 n1 c1] W fun e w' => e = .returned (.bool true) ∧ Below w.heap.size w w'))
    (P2 : Hid (∀ W, Below w.heap.size w W → Calls Try.prog 13 #[.slice A2 n2 c2] W fun e w' => e = .returned (.bool true) ∧ Below w.heap.size w w'))
    (He : Hid (∀ W, Below w.heap.size w W → Calls Try.prog 14 #[] W fun e w' => e = .returned (.bool true) ∧ Below w.heap.size w w')) :
    Calls Try.prog 9 #[.slice A1 n1 c1, .slice A2 n2 c2] w fun e w' => e = .returned (.bool true) ∧ Below w.heap.size w w' := by
  have HB0 := Lib.hid (Below.refl w.heap.size w)
  have K1 : Hid (∀ W, Below w.heap.size w W → Kd.C k39 W A1 n1 l1) := Lib.hid (fun W hb => Kd.C_below hC1 hb)
  have K2 : Hid (∀ W, Below w.heap.size w W → Kd.C k39 W A2 n2 l2) := Lib.hid (fun W hb => Kd.C_below hC2 hb)
  have M1 : Hid (∀ W, Below w.heap.size w W → Calls Try.prog 16 #[.slice A1 n1 c1, .slice A2 n2 c2] W (MG w W (mergeL (l1.map s9) (l2.map s9)))) := Lib.hid (fun W hb => mg w _ _ (by omega) (by omega) l1 l2 q1 q2 A1 n1 c1 A2 n2 c2 hn1 hn2 hc1 hc2 W hb (K1.out W hb) (K2.out W hb) _ rfl)
  have HP : Hid (∀ L : List S39, L.map s9 = mergeL (l1.map s9) (l2.map s9) → Pn 2000000 L) := Lib.hid (fun L hL => q1.merge q2 hL)
  generalize mergeL (l1.map s9) (l2.map s9) = R at M1 HP
  clear hn1 hc1 hC1 q1 K1 hn2 hc2 hC2 q2 K2
  go_enter Try.func9, Try.ntmps9
  go_wp2_with (first
    | (go_at_call 13; refine (P1.out _ HB0.out).mono ?_; rintro e W1 ⟨rfl, b⟩; have HB1 := Lib.hid b; clear b HB0)
    | (go_at_call 13; refine (P2.out _ HB1.out).mono ?_; rintro e W2 ⟨rfl, b⟩; have HB2 := Lib.hid b; clear b HB1)
    | (go_at_call 16; refine (M1.out _ HB2.out).mono ?_; rintro e W3 ⟨X, nX, cX, L, rfl, q1, q2, q3, q4, q5, b, _⟩; have HB3 := Lib.hid b; have Z1 := Lib.hid (And.intro q1 (And.intro q2 (And.intro q3 q5))); have Z2 := Lib.hid q4; clear b q1 q2 q3 q4 q5 HB2 M1)
    | (go_at_call 26; refine (ordered_c w 2000000 (by omega) L (HP.out L Z1.out.2.2.2) X nX cX Z1.out.1 Z1.out.2.1 _ HB3.out Z2.out).mono ?_; rintro e W4 ⟨rfl, b⟩; have HB4 := Lib.hid b; clear b)
    | (go_at_call 14; refine (He.out _ HB4.out).mono ?_; rintro e W5 ⟨rfl, b⟩; have HB5 := Lib.hid b; clear b HB4))
  exact bodyPost_ret (v := .bool true) (by simp [results, Try.results9, go_sem]) rfl ⟨rfl, HB5.out⟩
theorem c9 (l1 : List S39) (l2 : List S39) (A1 : Option Addr) (n1 c1 : Nat) (A2 : Option Addr) (n2 c2 : Nat) (w : World) (hn1 : l1.length = n1) (hc1 : n1 ≤ c1) (hC1 : Kd.C k39 w A1 n1 l1) (hn2 : l2.length = n2) (hc2 : n2 ≤ c2) (hC2 : Kd.C k39 w A2 n2 l2) :
    Calls Try.prog 9 #[.slice A1 n1 c1, .slice A2 n2 c2] w fun e w' => e = .returned (.bool true) ∧ Below w.heap.size w w' := by
  by_cases h1 : (n1 : Int) > 2147483647
  · exact c9_l1 A1 n1 c1 A2 n2 c2 w (decide_eq_true h1)
  have g1 : decide ((n1 : Int) > 2147483647) = false := decide_eq_false h1
  by_cases h2 : (n2 : Int) > 2147483647
  · exact c9_l2 A1 n1 c1 A2 n2 c2 w g1 (decide_eq_true h2)
  have g2 : decide ((n2 : Int) > 2147483647) = false := decide_eq_false h2
  obtain ⟨p1, e1, f1⟩ := proper_f l1 (by omega)
  obtain ⟨p2, e2, f2⟩ := proper_f l2 (by omega)
  subst hn1 hn2
  have Ha1 : ∀ v, p1 = v → Hid (∀ W, Below w.heap.size w W → Calls Try.prog 13 #[.slice A1 l1.length c1] W fun e w' => e = .returned (.bool v) ∧ Below w.heap.size w w') := fun v hv => Lib.hid (fun W hb => (spec_Proper.calls _ A1 c1 l1 v W (Kd.C_below hC1 hb) hc1 (hv ▸ e1)).mono (fun e w' q => ⟨q.1, hb.trans (q.2.mono hb.size)⟩))
  have Ha2 : ∀ v, p2 = v → Hid (∀ W, Below w.heap.size w W → Calls Try.prog 13 #[.slice A2 l2.length c2] W fun e w' => e = .returned (.bool v) ∧ Below w.heap.size w w') := fun v hv => Lib.hid (fun W hb => (spec_Proper.calls _ A2 c2 l2 v W (Kd.C_below hC2 hb) hc2 (hv ▸ e2)).mono (fun e w' q => ⟨q.1, hb.trans (q.2.mono hb.size)⟩))
  have He : Hid (∀ W, Below w.heap.size w W → Calls Try.prog 14 #[] W fun e w' => e = .returned (.bool true) ∧ Below w.heap.size w w') := Lib.hid (fun W hb => (laws_ivWorks.calls true W ivWorks_f).mono (fun e w' q => ⟨q.1, hb.trans (q.2.mono hb.size)⟩))
  cases k1 : p1 with
  | false => exact c9_1 A1 _ c1 A2 _ c2 w g1 g2 (Ha1 _ k1) He
  | true =>
  cases k2 : p2 with
  | false => exact c9_2 A1 _ c1 A2 _ c2 w g1 g2 (Ha1 _ k1) (Ha2 _ k2) He
  | true =>
  obtain ⟨a1, b1, m1⟩ := f1 k1
  obtain ⟨a2, b2, m2⟩ := f2 k2
  exact c9_all l1 l2 A1 _ c1 A2 _ c2 w g1 g2 rfl hc1 hC1 (proper_n l1 a1 b1 m1) rfl hc2 hC2 (proper_n l2 a2 b2 m2) (Ha1 _ k1) (Ha2 _ k2) He
theorem c9r (l1 : List S39) (A1 : Option Addr) (n1 c1 : Nat) (l2 : List S39) (A2 : Option Addr) (n2 c2 : Nat) (w : World) (hn1 : l1.length = n1) (hc1 : n1 ≤ c1) (hC1 : Kd.C k39 w A1 n1 l1) (hn2 : l2.length = n2) (hc2 : n2 ≤ c2) (hC2 : Kd.C k39 w A2 n2 l2) :
    Calls Try.prog 9 #[.slice A1 n1 c1, .slice A2 n2 c2] w fun e w' => e = .returned (.bool true) ∧ Below w.heap.size w w' := c9 l1 l2 A1 n1 c1 A2 n2 c2 w hn1 hc1 hC1 hn2 hc2 hC2
theorem c10_l1 (A1 : Option Addr) (n1 c1 : Nat) (A2 : Option Addr) (n2 c2 : Nat) (A3 : Option Addr) (n3 c3 : Nat) (w : World) (h1 : decide ((n1 : Int) > 2147483647) = true) :
    Calls Try.prog 10 #[.slice A1 n1 c1, .slice A2 n2 c2, .slice A3 n3 c3] w fun e w' => e = .returned (.bool true) ∧ Below w.heap.size w w' := by
  go_enter Try.func10, Try.ntmps10
  go_wp2
  exact bodyPost_ret (v := .bool true) (by simp [results, Try.results10, go_sem]) rfl ⟨rfl, Below.refl _ _⟩
theorem c10_l2 (A1 : Option Addr) (n1 c1 : Nat) (A2 : Option Addr) (n2 c2 : Nat) (A3 : Option Addr) (n3 c3 : Nat) (w : World) (h1 : decide ((n1 : Int) > 2147483647) = false) (h2 : decide ((n2 : Int) > 2147483647) = true) :
    Calls Try.prog 10 #[.slice A1 n1 c1, .slice A2 n2 c2, .slice A3 n3 c3] w fun e w' => e = .returned (.bool true) ∧ Below w.heap.size w w' := by
  go_enter Try.func10, Try.ntmps10
  go_wp2
  exact bodyPost_ret (v := .bool true) (by simp [results, Try.results10, go_sem]) rfl ⟨rfl, Below.refl _ _⟩
theorem c10_l3 (A1 : Option Addr) (n1 c1 : Nat) (A2 : Option Addr) (n2 c2 : Nat) (A3 : Option Addr) (n3 c3 : Nat) (w : World) (h1 : decide ((n1 : Int) > 2147483647) = false) (h2 : decide ((n2 : Int) > 2147483647) = false) (h3 : decide ((n3 : Int) > 2147483647) = true) :
    Calls Try.prog 10 #[.slice A1 n1 c1, .slice A2 n2 c2, .slice A3 n3 c3] w fun e w' => e = .returned (.bool true) ∧ Below w.heap.size w w' := by
  go_enter Try.func10, Try.ntmps10
  go_wp2
  exact bodyPost_ret (v := .bool true) (by simp [results, Try.results10, go_sem]) rfl ⟨rfl, Below.refl _ _⟩
set_option maxHeartbeats 8000000 in
theorem c10_1 (A1 : Option Addr) (n1 c1 : Nat) (A2 : Option Addr) (n2 c2 : Nat) (A3 : Option Addr) (n3 c3 : Nat) (w : World) (h1 : decide ((n1 : Int) > 2147483647) = false) (h2 : decide ((n2 : Int) > 2147483647) = false) (h3 : decide ((n3 : Int) > 2147483647) = false)
    (P1 : Hid (∀ W, Below w.heap.size w W → Calls Try.prog 13 #[.slice A1 n1 c1] W fun e w' => e = .returned (.bool false) ∧ Below w.heap.size w w'))
    (He : Hid (∀ W, Below w.heap.size w W → Calls Try.prog 14 #[] W fun e w' => e = .returned (.bool true) ∧ Below w.heap.size w w')) :
    Calls Try.prog 10 #[.slice A1 n1 c1, .slice A2 n2 c2, .slice A3 n3 c3] w fun e w' => e = .returned (.bool true) ∧ Below w.heap.size w w' := by
  have HB0 := Lib.hid (Below.refl w.heap.size w)
  go_enter Try.func10, Try.ntmps10
  go_wp2_with (first
    | (go_at_call 13; refine (P1.out _ HB0.out).mono ?_; rintro e W1 ⟨rfl, b⟩; have HB1 := Lib.hid b; clear b HB0)
    | (go_at_call 14; refine (He.out _ HB1.out).mono ?_; rintro e W2 ⟨rfl, b⟩; have HB2 := Lib.hid b; clear b HB1))
  exact bodyPost_ret (v := .bool true) (by simp [results, Try.results10, go_sem]) rfl ⟨rfl, HB2.out⟩
set_option maxHeartbeats 8000000 in
theorem c10_2 (A1 : Option Addr) (n1 c1 : Nat) (A2 : Option Addr) (n2 c2 : Nat) (A3 : Option Addr) (n3 c3 : Nat) (w : World) (h1 : decide ((n1 : Int) > 2147483647) = false) (h2 : decide ((n2 : Int) > 2147483647) = false) (h3 : decide ((n3 : Int) > 2147483647) = false)
    (P1 : Hid (∀ W, Below w.heap.size w W → Calls Try.prog 13 #[.slice A1 n1 c1] W fun e w' => e = .returned (.bool true) ∧ Below w.heap.size w w'))
    (P2 : Hid (∀ W, Below w.heap.size w W → Calls Try.prog 13 #[.slice A2 n2 c2] W fun e w' => e = .returned (.bool false) ∧ Below w.heap.size w w'))
    (He : Hid (∀ W, Below w.heap.size w W → Calls Try.prog 14 #[] W fun e w' => e = .returned (.bool true) ∧ Below w.heap.size w w')) :
    Calls Try.prog 10 #[.slice A1 n1 c1, .slice A2 n2 c2, .slice A3 n3 c3] w fun e w' => e = .returned (.bool true) ∧ Below w.heap.size w w' := by
  have HB0 := Lib.hid (Below.refl w.heap.size w)
  go_enter Try.func10, Try.ntmps10
  go_wp2_with (first
    | (go_at_call 13; refine (P1.out _ HB0.out).mono ?_; rintro e W1 ⟨rfl, b⟩; have HB1 := Lib.hid b; clear b HB0)
    | (go_at_call 13; refine (P2.out _ HB1.out).mono ?_; rintro e W2 ⟨rfl, b⟩; have HB2 := Lib.hid b; clear b HB1)
    | (go_at_call 14; refine (He.out _ HB2.out).mono ?_; rintro e W3 ⟨rfl, b⟩; have HB3 := Lib.hid b; clear b HB2))
  exact bodyPost_ret (v := .bool true) (by simp [results, Try.results10, go_sem]) rfl ⟨rfl, HB3.out⟩
set_option maxHeartbeats 8000000 in
theorem c10_3 (A1 : Option Addr) (n1 c1 : Nat) (A2 : Option Addr) (n2 c2 : Nat) (A3 : Option Addr) (n3 c3 : Nat) (w : World) (h1 : decide ((n1 : Int) > 2147483647) = false) (h2 : decide ((n2 : Int) > 2147483647) = false) (h3 : decide ((n3 : Int) > 2147483647) = false)
    (P1 : Hid (∀ W, Below w.heap.size w W → Calls Try.prog 13 #[.slice A1 n1 c1] W fun e w' => e = .returned (.bool true) ∧ Below w.heap.size w w'))
    (P2 : Hid (∀ W, Below w.heap.size w W → Calls Try.prog 13 #[.slice A2 n2 c2] W fun e w' => e = .returned (.bool true) ∧ Below w.heap.size w w'))
    (P3 : Hid (∀ W, Below w.heap.size w W → Calls Try.prog 13 #[.slice A3 n3 c3] W fun e w' => e = .returned (.bool false) ∧ Below w.heap.size w w'))
    (He : Hid (∀ W, Below w.heap.size w W → Calls Try.prog 14 #[] W fun e w' => e = .returned (.bool true) ∧ Below w.heap.size w w')) :
    Calls Try.prog 10 #[.slice A1 n1 c1, .slice A2 n2 c2, .slice A3 n3 c3] w fun e w' => e = .returned (.bool true) ∧ Below w.heap.size w w' := by
  have HB0 := Lib.hid (Below.refl w.heap.size w)
  go_enter Try.func10, Try.ntmps10
  go_wp2_with (first
    | (go_at_call 13; refine (P1.out _ HB0.out).mono ?_; rintro e W1 ⟨rfl, b⟩; have HB1 := Lib.hid b; clear b HB0)
    | (go_at_call 13; refine (P2.out _ HB1.out).mono ?_; rintro e W2 ⟨rfl, b⟩; have HB2 := Lib.hid b; clear b HB1)
    | (go_at_call 13; refine (P3.out _ HB2.out).mono ?_; rintro e W3 ⟨rfl, b⟩; have HB3 := Lib.hid b; clear b HB2)
    | (go_at_call 14; refine (He.out _ HB3.out).mono ?_; rintro e W4 ⟨rfl, b⟩; have HB4 := Lib.hid b; clear b HB3))
  exact bodyPost_ret (v := .bool true) (by simp [results, Try.results10, go_sem]) rfl ⟨rfl, HB4.out⟩
set_option maxHeartbeats 8000000 in
theorem c10_all (l1 : List S39) (l2 : List S39) (l3 : List S39) (A1 : Option Addr) (n1 c1 : Nat) (A2 : Option Addr) (n2 c2 : Nat) (A3 : Option Addr) (n3 c3 : Nat) (w : World) (h1 : decide ((n1 : Int) > 2147483647) = false) (h2 : decide ((n2 : Int) > 2147483647) = false) (h3 : decide ((n3 : Int) > 2147483647) = false) (hn1 : l1.length = n1) (hc1 : n1 ≤ c1) (hC1 : Kd.C k39 w A1 n1 l1) (q1 : Pn 1000000 l1) (hn2 : l2.length = n2) (hc2 : n2 ≤ c2) (hC2 : Kd.C k39 w A2 n2 l2) (q2 : Pn 1000000 l2) (hn3 : l3.length = n3) (hc3 : n3 ≤ c3) (hC3 : Kd.C k39 w A3 n3 l3) (q3 : Pn 1000000 l3)
    (P1 : Hid (∀ W, Below w.heap.size w W → Calls Try.prog 13 #[.slice A1 n1 c1] W fun e w' => e = .returned (.bool true) ∧ Below w.heap.size w w'))
    (P2 : Hid (∀ W, Below w.heap.size w W → Calls Try.prog 13 #[.slice A2 n2 c2] W fun e w' => e = .returned (.bool true) ∧ Below w.heap.size w w'))
    (P3 : Hid (∀ W, Below w.heap.size w W → Calls Try.prog 13 #[.slice A3 n3 c3] W fun e w' => e = .returned (.bool true) ∧ Below w.heap.size w w'))
    (He : Hid (∀ W, Below w.heap.size w W → Calls Try.prog 14 #[] W fun e w' => e = .returned (.bool true) ∧ Below w.heap.size w w')) :
    Calls Try.prog 10 #[.slice A1 n1 c1, .slice A2 n2 c2, .slice A3 n3 c3] w fun e w' => e = .returned (.bool true) ∧ Below w.heap.size w w' := by
  have HB0 := Lib.hid (Below.refl w.heap.size w)
  have K1 : Hid (∀ W, Below w.heap.size w W → Kd.C k39 W A1 n1 l1) := Lib.hid (fun W hb => Kd.C_below hC1 hb)
  have K2 : Hid (∀ W, Below w.heap.size w W → Kd.C k39 W A2 n2 l2) := Lib.hid (fun W hb => Kd.C_below hC2 hb)
  have K3 : Hid (∀ W, Below w.heap.size w W → Kd.C k39 W A3 n3 l3) := Lib.hid (fun W hb => Kd.C_below hC3 hb)
  obtain ⟨R, hR⟩ : ∃ R, mergeL (mergeL (l1.map s9) (l2.map s9)) (l3.map s9) = R := ⟨_, rfl⟩
  have hR2 : mergeL (l1.map s9) (mergeL (l2.map s9) (l3.map s9)) = R := by rw [← hR, mergeL_assoc _ _ _ _ q1.gap q2.gap q3.gap]
  have M1 : Hid (∀ W, Below w.heap.size w W → Calls Try.prog 16 #[.slice A1 n1 c1, .slice A2 n2 c2] W (MG w W (mergeL (l1.map s9) (l2.map s9)))) := Lib.hid (fun W hb => mg w _ _ (by omega) (by omega) l1 l2 q1 q2 A1 n1 c1 A2 n2 c2 hn1 hn2 hc1 hc2 W hb (K1.out W hb) (K2.out W hb) _ rfl)
  have M2 : Hid (∀ W, Below w.heap.size w W → ∀ X nX cX (L : List S39), L.length = nX → nX ≤ cX → L.map s9 = mergeL (l1.map s9) (l2.map s9) → Kd.C k39 W X nX L → Calls Try.prog 16 #[.slice X nX cX, .slice A3 n3 c3] W (MG w W R)) := Lib.hid (fun W hb X nX cX L e1 e2 e3 e4 => mg w _ _ (by omega) (by omega) L l3 (q1.merge q2 e3) q3 X nX cX A3 n3 c3 e1 hn3 e2 hc3 W hb e4 (K3.out W hb) _ (by rw [e3]; exact hR))
  have M3 : Hid (∀ W, Below w.heap.size w W → Calls Try.prog 16 #[.slice A2 n2 c2, .slice A3 n3 c3] W (MG w W (mergeL (l2.map s9) (l3.map s9)))) := Lib.hid (fun W hb => mg w _ _ (by omega) (by omega) l2 l3 q2 q3 A2 n2 c2 A3 n3 c3 hn2 hn3 hc2 hc3 W hb (K2.out W hb) (K3.out W hb) _ rfl)
  have M4 : Hid (∀ W, Below w.heap.size w W → ∀ X nX cX (L : List S39), L.length = nX → nX ≤ cX → L.map s9 = mergeL (l2.map s9) (l3.map s9) → Kd.C k39 W X nX L → Calls Try.prog 16 #[.slice A1 n1 c1, .slice X nX cX] W (MG w W R)) := Lib.hid (fun W hb X nX cX L e1 e2 e3 e4 => mg w _ _ (by omega) (by omega) l1 L q1 (q2.merge q3 e3) A1 n1 c1 X nX cX hn1 e1 hc1 e2 W hb (K1.out W hb) e4 _ (by rw [e3]; exact hR2))
  generalize mergeL (l1.map s9) (l2.map s9) = R1 at M1 M2
  generalize mergeL (l2.map s9) (l3.map s9) = R2 at M3 M4
  clear hR hR2
  clear hn1 hc1 hC1 q1 K1 hn2 hc2 hC2 q2 K2 hn3 hc3 hC3 q3 K3
  go_enter Try.func10, Try.ntmps10
  go_wp2_with (first
    | (go_at_call 13; refine (P1.out _ HB0.out).mono ?_; rintro e W1 ⟨rfl, b⟩; have HB1 := Lib.hid b; clear b HB0)
    | (go_at_call 13; refine (P2.out _ HB1.out).mono ?_; rintro e W2 ⟨rfl, b⟩; have HB2 := Lib.hid b; clear b HB1)
    | (go_at_call 13; refine (P3.out _ HB2.out).mono ?_; rintro e W3 ⟨rfl, b⟩; have HB3 := Lib.hid b; clear b HB2)
    | (go_at_call 16; refine (M1.out _ HB3.out).mono ?_; rintro e W4 ⟨U, nU, cU, L1, rfl, q1, q2, q3, q4, q5, b, b'⟩; have HB4 := Lib.hid b; have Z1 := Lib.hid (And.intro q1 (And.intro q2 (And.intro q3 q5))); have Z2 := Lib.hid q4; clear b b' q1 q2 q3 q4 q5 M1)
    | (go_at_call 16; refine (M2.out _ HB4.out U nU cU L1 Z1.out.1 Z1.out.2.1 Z1.out.2.2.2 Z2.out).mono ?_; rintro e W5 ⟨X, nX, cX, L, rfl, q1, q2, q3, q4, q5, b, b'⟩; have HB5 := Lib.hid b; have Z3 := Lib.hid (And.intro q1 (And.intro q2 (And.intro q3 q5))); have Z4 := Lib.hid q4; clear b b' q1 q2 q3 q4 q5 M2)
    | (go_at_call 16; refine (M3.out _ HB5.out).mono ?_; rintro e W6 ⟨V, nV, cV, L2, rfl, q1, q2, q3, q4, q5, b, b'⟩; have HB6 := Lib.hid b; have Z5 := Lib.hid (And.intro q1 (And.intro q2 (And.intro q3 q5))); have Z6 := Lib.hid q4; have Z7 := Lib.hid (Kd.C_below Z4.out b'); clear b b' q1 q2 q3 q4 q5 M3)
    | (go_at_call 16; refine (M4.out _ HB6.out V nV cV L2 Z5.out.1 Z5.out.2.1 Z5.out.2.2.2 Z6.out).mono ?_; rintro e W7 ⟨Y, nY, cY, M, rfl, q1, q2, q3, q4, q5, b, b'⟩; have HB7 := Lib.hid b; have Z8 := Lib.hid (And.intro q1 (And.intro q2 (And.intro q3 q5))); have Z9 := Lib.hid q4; have Z10 := Lib.hid (Kd.C_below Z7.out b'); clear b b' q1 q2 q3 q4 q5 M4)
    | (go_at_call 22; refine (same_c w L M X nX cX Y nY cY Z3.out.1 Z8.out.1 Z3.out.2.1 Z8.out.2.1 Z3.out.2.2.1 _ HB7.out Z10.out Z9.out R Z3.out.2.2.2 Z8.out.2.2.2).mono ?_; rintro e W8 ⟨rfl, b⟩; have HB8 := Lib.hid b; clear b)
    | (go_at_call 14; refine (He.out _ HB8.out).mono ?_; rintro e W9 ⟨rfl, b⟩; have HB9 := Lib.hid b; clear b HB8))
  exact bodyPost_ret (v := .bool true) (by simp [results, Try.results10, go_sem]) rfl ⟨rfl, HB9.out⟩
theorem c10 (l1 : List S39) (l2 : List S39) (l3 : List S39) (A1 : Option Addr) (n1 c1 : Nat) (A2 : Option Addr) (n2 c2 : Nat) (A3 : Option Addr) (n3 c3 : Nat) (w : World) (hn1 : l1.length = n1) (hc1 : n1 ≤ c1) (hC1 : Kd.C k39 w A1 n1 l1) (hn2 : l2.length = n2) (hc2 : n2 ≤ c2) (hC2 : Kd.C k39 w A2 n2 l2) (hn3 : l3.length = n3) (hc3 : n3 ≤ c3) (hC3 : Kd.C k39 w A3 n3 l3) :
    Calls Try.prog 10 #[.slice A1 n1 c1, .slice A2 n2 c2, .slice A3 n3 c3] w fun e w' => e = .returned (.bool true) ∧ Below w.heap.size w w' := by
  by_cases h1 : (n1 : Int) > 2147483647
  · exact c10_l1 A1 n1 c1 A2 n2 c2 A3 n3 c3 w (decide_eq_true h1)
  have g1 : decide ((n1 : Int) > 2147483647) = false := decide_eq_false h1
  by_cases h2 : (n2 : Int) > 2147483647
  · exact c10_l2 A1 n1 c1 A2 n2 c2 A3 n3 c3 w g1 (decide_eq_true h2)
  have g2 : decide ((n2 : Int) > 2147483647) = false := decide_eq_false h2
  by_cases h3 : (n3 : Int) > 2147483647
  · exact c10_l3 A1 n1 c1 A2 n2 c2 A3 n3 c3 w g1 g2 (decide_eq_true h3)
  have g3 : decide ((n3 : Int) > 2147483647) = false := decide_eq_false h3
  obtain ⟨p1, e1, f1⟩ := proper_f l1 (by omega)
  obtain ⟨p2, e2, f2⟩ := proper_f l2 (by omega)
  obtain ⟨p3, e3, f3⟩ := proper_f l3 (by omega)
  subst hn1 hn2 hn3
  have Ha1 : ∀ v, p1 = v → Hid (∀ W, Below w.heap.size w W → Calls Try.prog 13 #[.slice A1 l1.length c1] W fun e w' => e = .returned (.bool v) ∧ Below w.heap.size w w') := fun v hv => Lib.hid (fun W hb => (spec_Proper.calls _ A1 c1 l1 v W (Kd.C_below hC1 hb) hc1 (hv ▸ e1)).mono (fun e w' q => ⟨q.1, hb.trans (q.2.mono hb.size)⟩))
  have Ha2 : ∀ v, p2 = v → Hid (∀ W, Below w.heap.size w W → Calls Try.prog 13 #[.slice A2 l2.length c2] W fun e w' => e = .returned (.bool v) ∧ Below w.heap.size w w') := fun v hv => Lib.hid (fun W hb => (spec_Proper.calls _ A2 c2 l2 v W (Kd.C_below hC2 hb) hc2 (hv ▸ e2)).mono (fun e w' q => ⟨q.1, hb.trans (q.2.mono hb.size)⟩))
  have Ha3 : ∀ v, p3 = v → Hid (∀ W, Below w.heap.size w W → Calls Try.prog 13 #[.slice A3 l3.length c3] W fun e w' => e = .returned (.bool v) ∧ Below w.heap.size w w') := fun v hv => Lib.hid (fun W hb => (spec_Proper.calls _ A3 c3 l3 v W (Kd.C_below hC3 hb) hc3 (hv ▸ e3)).mono (fun e w' q => ⟨q.1, hb.trans (q.2.mono hb.size)⟩))
  have He : Hid (∀ W, Below w.heap.size w W → Calls Try.prog 14 #[] W fun e w' => e = .returned (.bool true) ∧ Below w.heap.size w w') := Lib.hid (fun W hb => (laws_ivWorks.calls true W ivWorks_f).mono (fun e w' q => ⟨q.1, hb.trans (q.2.mono hb.size)⟩))
  cases k1 : p1 with
  | false => exact c10_1 A1 _ c1 A2 _ c2 A3 _ c3 w g1 g2 g3 (Ha1 _ k1) He
  | true =>
  cases k2 : p2 with
  | false => exact c10_2 A1 _ c1 A2 _ c2 A3 _ c3 w g1 g2 g3 (Ha1 _ k1) (Ha2 _ k2) He
  | true =>
  cases k3 : p3 with
  | false => exact c10_3 A1 _ c1 A2 _ c2 A3 _ c3 w g1 g2 g3 (Ha1 _ k1) (Ha2 _ k2) (Ha3 _ k3) He
  | true =>
  obtain ⟨a1, b1, m1⟩ := f1 k1
  obtain ⟨a2, b2, m2⟩ := f2 k2
  obtain ⟨a3, b3, m3⟩ := f3 k3
  exact c10_all l1 l2 l3 A1 _ c1 A2 _ c2 A3 _ c3 w g1 g2 g3 rfl hc1 hC1 (proper_n l1 a1 b1 m1) rfl hc2 hC2 (proper_n l2 a2 b2 m2) rfl hc3 hC3 (proper_n l3 a3 b3 m3) (Ha1 _ k1) (Ha2 _ k2) (Ha3 _ k3) He
theorem c10r (l1 : List S39) (A1 : Option Addr) (n1 c1 : Nat) (l2 : List S39) (A2 : Option Addr) (n2 c2 : Nat) (l3 : List S39) (A3 : Option Addr) (n3 c3 : Nat) (w : World) (hn1 : l1.length = n1) (hc1 : n1 ≤ c1) (hC1 : Kd.C k39 w A1 n1 l1) (hn2 : l2.length = n2) (hc2 : n2 ≤ c2) (hC2 : Kd.C k39 w A2 n2 l2) (hn3 : l3.length = n3) (hc3 : n3 ≤ c3) (hC3 : Kd.C k39 w A3 n3 l3) :
    Calls Try.prog 10 #[.slice A1 n1 c1, .slice A2 n2 c2, .slice A3 n3 c3] w fun e w' => e = .returned (.bool true) ∧ Below w.heap.size w w' := c10 l1 l2 l3 A1 n1 c1 A2 n2 c2 A3 n3 c3 w hn1 hc1 hC1 hn2 hc2 hC2 hn3 hc3 hC3
end Go.Proofs.Ytmfffeoodlmnbaa.C8
