/- laws.FnSetsOverlapPlace: it returns true. The walk. -/
import Derived.Test.YtmfffeoodlmnbaaSo
namespace Go.Proofs.Ytmfffeoodlmnbaa.C7
set_option linter.unusedSimpArgs false
set_option linter.unusedVariables false
open Go.RowKit Go.Proofs.YtmfffeoodlmnbaaW.PrintWords Go.Proofs.YtmfffeoodlmnbaaW.PrintLast Go.Proofs.YtmfffeoodlmnbaaW.PrintMore Go.Proofs.Ytmfffeoodlmnbaa.Kit Go.Proofs.Ytmfffeoodlmnbaa.Sp Go.Proofs.Ytmfffeoodlmnbaa.Se Go.Proofs.Ytmfffeoodlmnbaa.In Go.Proofs.Ytmfffeoodlmnbaa.Iv Go.Proofs.Ytmfffeoodlmnbaa.Vp Go.Proofs.Ytmfffeoodlmnbaa.Ov Go.Proofs.Ytmfffeoodlmnbaa.Oc Go.Proofs.Ytmfffeoodlmnbaa.Pj Go.Proofs.Ytmfffeoodlmnbaa.So
theorem c7_l1 (A1 : Option Addr) (n1 c1 : Nat) (A2 : Option Addr) (n2 c2 : Nat) (x : Int) (w : World) (h : decide ((n1 : Int) > 2147483647) = true) :
    Calls Try.prog 7 #[.slice A1 n1 c1, .slice A2 n2 c2, .int .i64 x] w fun e w' => e = .returned (.bool true) ∧ Below w.heap.size w w' := by
  go_enter Try.func7, Try.ntmps7
  go_wp2
  exact bodyPost_ret (v := .bool true) (by simp [results, Try.results7, go_sem]) rfl ⟨rfl, Below.refl _ _⟩
theorem c7_l2 (A1 : Option Addr) (n1 c1 : Nat) (A2 : Option Addr) (n2 c2 : Nat) (x : Int) (w : World) (h0 : decide ((n1 : Int) > 2147483647) = false) (h : decide ((n2 : Int) > 2147483647) = true) :
    Calls Try.prog 7 #[.slice A1 n1 c1, .slice A2 n2 c2, .int .i64 x] w fun e w' => e = .returned (.bool true) ∧ Below w.heap.size w w' := by
  go_enter Try.func7, Try.ntmps7
  go_wp2
  exact bodyPost_ret (v := .bool true) (by simp [results, Try.results7, go_sem]) rfl ⟨rfl, Below.refl _ _⟩
set_option maxHeartbeats 8000000 in
theorem c7_0 (A1 : Option Addr) (n1 c1 : Nat) (A2 : Option Addr) (n2 c2 : Nat) (x : Int) (w : World) (h0 : decide ((n1 : Int) > 2147483647) = false) (h1 : decide ((n2 : Int) > 2147483647) = false)
    (Ha : Hid (∀ W, Below w.heap.size w W → Calls Try.prog 13 #[.slice A1 n1 c1] W fun e w' => e = .returned (.bool false) ∧ Below w.heap.size w w'))
    (He : Hid (∀ W, Below w.heap.size w W → Calls Try.prog 14 #[] W fun e w' => e = .returned (.bool true) ∧ Below w.heap.size w w')) :
    Calls Try.prog 7 #[.slice A1 n1 c1, .slice A2 n2 c2, .int .i64 x] w fun e w' => e = .returned (.bool true) ∧ Below w.heap.size w w' := by
  have HB0 := Lib.hid (Below.refl w.heap.size w)
  go_enter Try.func7, Try.ntmps7
  go_wp2_with (first
    | (go_at_call 13; refine (Ha.out _ HB0.out).mono ?_; rintro e W1 ⟨rfl, b⟩; have HB1 := Lib.hid b; clear b HB0)
    | (go_at_call 14; refine (He.out _ HB1.out).mono ?_; rintro e W2 ⟨rfl, b⟩; have HB2 := Lib.hid b; clear b HB1))
  exact bodyPost_ret (v := .bool true) (by simp [results, Try.results7, go_sem]) rfl ⟨rfl, HB2.out⟩
set_option maxHeartbeats 8000000 in
theorem c7_1 (A1 : Option Addr) (n1 c1 : Nat) (A2 : Option Addr) (n2 c2 : Nat) (x : Int) (w : World) (h0 : decide ((n1 : Int) > 2147483647) = false) (h1 : decide ((n2 : Int) > 2147483647) = false)
    (Ha : Hid (∀ W, Below w.heap.size w W → Calls Try.prog 13 #[.slice A1 n1 c1] W fun e w' => e = .returned (.bool true) ∧ Below w.heap.size w w'))
    (Hb : Hid (∀ W, Below w.heap.size w W → Calls Try.prog 13 #[.slice A2 n2 c2] W fun e w' => e = .returned (.bool false) ∧ Below w.heap.size w w'))
    (He : Hid (∀ W, Below w.heap.size w W → Calls Try.prog 14 #[] W fun e w' => e = .returned (.bool true) ∧ Below w.heap.size w w')) :
    Calls Try.prog 7 #[.slice A1 n1 c1, .slice A2 n2 c2, .int .i64 x] w fun e w' => e = .returned (.bool true) ∧ Below w.heap.size w w' := by
  have HB0 := Lib.hid (Below.refl w.heap.size w)
  go_enter Try.func7, Try.ntmps7
  go_wp2_with (first
    | (go_at_call 13; refine (Ha.out _ HB0.out).mono ?_; rintro e W1 ⟨rfl, b⟩; have HB1 := Lib.hid b; clear b HB0)
    | (go_at_call 13; refine (Hb.out _ HB1.out).mono ?_; rintro e W2 ⟨rfl, b⟩; have HB2 := Lib.hid b; clear b HB1)
    | (go_at_call 14; refine (He.out _ HB2.out).mono ?_; rintro e W3 ⟨rfl, b⟩; have HB3 := Lib.hid b; clear b HB2))
  exact bodyPost_ret (v := .bool true) (by simp [results, Try.results7, go_sem]) rfl ⟨rfl, HB3.out⟩
set_option maxHeartbeats 8000000 in
theorem c7_2 (A1 : Option Addr) (n1 c1 : Nat) (A2 : Option Addr) (n2 c2 : Nat) (x : Int) (w : World) (h0 : decide ((n1 : Int) > 2147483647) = false) (h1 : decide ((n2 : Int) > 2147483647) = false)
    (Ha : Hid (∀ W, Below w.heap.size w W → Calls Try.prog 13 #[.slice A1 n1 c1] W fun e w' => e = .returned (.bool true) ∧ Below w.heap.size w w'))
    (Hb : Hid (∀ W, Below w.heap.size w W → Calls Try.prog 13 #[.slice A2 n2 c2] W fun e w' => e = .returned (.bool true) ∧ Below w.heap.size w w'))
    (Hc : Hid (∀ W, Below w.heap.size w W → Calls Try.prog 25 #[.slice A1 n1 c1, .int .i64 x] W fun e w' => e = .returned (.bool false) ∧ Below w.heap.size w w'))
    (He : Hid (∀ W, Below w.heap.size w W → Calls Try.prog 14 #[] W fun e w' => e = .returned (.bool true) ∧ Below w.heap.size w w')) :
    Calls Try.prog 7 #[.slice A1 n1 c1, .slice A2 n2 c2, .int .i64 x] w fun e w' => e = .returned (.bool true) ∧ Below w.heap.size w w' := by
  have HB0 := Lib.hid (Below.refl w.heap.size w)
  go_enter Try.func7, Try.ntmps7
  go_wp2_with (first
    | (go_at_call 13; refine (Ha.out _ HB0.out).mono ?_; rintro e W1 ⟨rfl, b⟩; have HB1 := Lib.hid b; clear b HB0)
    | (go_at_call 13; refine (Hb.out _ HB1.out).mono ?_; rintro e W2 ⟨rfl, b⟩; have HB2 := Lib.hid b; clear b HB1)
    | (go_at_call 25; refine (Hc.out _ HB2.out).mono ?_; rintro e W3 ⟨rfl, b⟩; have HB3 := Lib.hid b; clear b HB2)
    | (go_at_call 14; refine (He.out _ HB3.out).mono ?_; rintro e W4 ⟨rfl, b⟩; have HB4 := Lib.hid b; clear b HB3))
  exact bodyPost_ret (v := .bool true) (by simp [results, Try.results7, go_sem]) rfl ⟨rfl, HB4.out⟩
set_option maxHeartbeats 8000000 in
theorem c7_3 (A1 : Option Addr) (n1 c1 : Nat) (A2 : Option Addr) (n2 c2 : Nat) (x : Int) (w : World) (h0 : decide ((n1 : Int) > 2147483647) = false) (h1 : decide ((n2 : Int) > 2147483647) = false)
    (Ha : Hid (∀ W, Below w.heap.size w W → Calls Try.prog 13 #[.slice A1 n1 c1] W fun e w' => e = .returned (.bool true) ∧ Below w.heap.size w w'))
    (Hb : Hid (∀ W, Below w.heap.size w W → Calls Try.prog 13 #[.slice A2 n2 c2] W fun e w' => e = .returned (.bool true) ∧ Below w.heap.size w w'))
    (Hc : Hid (∀ W, Below w.heap.size w W → Calls Try.prog 25 #[.slice A1 n1 c1, .int .i64 x] W fun e w' => e = .returned (.bool true) ∧ Below w.heap.size w w'))
    (Hd : Hid (∀ W, Below w.heap.size w W → Calls Try.prog 25 #[.slice A2 n2 c2, .int .i64 x] W fun e w' => e = .returned (.bool false) ∧ Below w.heap.size w w'))
    (He : Hid (∀ W, Below w.heap.size w W → Calls Try.prog 14 #[] W fun e w' => e = .returned (.bool true) ∧ Below w.heap.size w w')) :
    Calls Try.prog 7 #[.slice A1 n1 c1, .slice A2 n2 c2, .int .i64 x] w fun e w' => e = .returned (.bool true) ∧ Below w.heap.size w w' := by
  have HB0 := Lib.hid (Below.refl w.heap.size w)
  go_enter Try.func7, Try.ntmps7
  go_wp2_with (first
    | (go_at_call 13; refine (Ha.out _ HB0.out).mono ?_; rintro e W1 ⟨rfl, b⟩; have HB1 := Lib.hid b; clear b HB0)
    | (go_at_call 13; refine (Hb.out _ HB1.out).mono ?_; rintro e W2 ⟨rfl, b⟩; have HB2 := Lib.hid b; clear b HB1)
    | (go_at_call 25; refine (Hc.out _ HB2.out).mono ?_; rintro e W3 ⟨rfl, b⟩; have HB3 := Lib.hid b; clear b HB2)
    | (go_at_call 25; refine (Hd.out _ HB3.out).mono ?_; rintro e W4 ⟨rfl, b⟩; have HB4 := Lib.hid b; clear b HB3)
    | (go_at_call 14; refine (He.out _ HB4.out).mono ?_; rintro e W5 ⟨rfl, b⟩; have HB5 := Lib.hid b; clear b HB4))
  exact bodyPost_ret (v := .bool true) (by simp [results, Try.results7, go_sem]) rfl ⟨rfl, HB5.out⟩
set_option maxHeartbeats 8000000 in
theorem c7_4 (A1 : Option Addr) (n1 c1 : Nat) (A2 : Option Addr) (n2 c2 : Nat) (x : Int) (w : World) (h0 : decide ((n1 : Int) > 2147483647) = false) (h1 : decide ((n2 : Int) > 2147483647) = false)
    (Ha : Hid (∀ W, Below w.heap.size w W → Calls Try.prog 13 #[.slice A1 n1 c1] W fun e w' => e = .returned (.bool true) ∧ Below w.heap.size w w'))
    (Hb : Hid (∀ W, Below w.heap.size w W → Calls Try.prog 13 #[.slice A2 n2 c2] W fun e w' => e = .returned (.bool true) ∧ Below w.heap.size w w'))
    (Hc : Hid (∀ W, Below w.heap.size w W → Calls Try.prog 25 #[.slice A1 n1 c1, .int .i64 x] W fun e w' => e = .returned (.bool true) ∧ Below w.heap.size w w'))
    (Hd : Hid (∀ W, Below w.heap.size w W → Calls Try.prog 25 #[.slice A2 n2 c2, .int .i64 x] W fun e w' => e = .returned (.bool true) ∧ Below w.heap.size w w'))
    (He : Hid (∀ W, Below w.heap.size w W → Calls Try.prog 20 #[.slice A1 n1 c1, .slice A2 n2 c2] W fun e w' => e = .returned (.bool true) ∧ Below w.heap.size w w')) :
    Calls Try.prog 7 #[.slice A1 n1 c1, .slice A2 n2 c2, .int .i64 x] w fun e w' => e = .returned (.bool true) ∧ Below w.heap.size w w' := by
  have HB0 := Lib.hid (Below.refl w.heap.size w)
  go_enter Try.func7, Try.ntmps7
  go_wp2_with (first
    | (go_at_call 13; refine (Ha.out _ HB0.out).mono ?_; rintro e W1 ⟨rfl, b⟩; have HB1 := Lib.hid b; clear b HB0)
    | (go_at_call 13; refine (Hb.out _ HB1.out).mono ?_; rintro e W2 ⟨rfl, b⟩; have HB2 := Lib.hid b; clear b HB1)
    | (go_at_call 25; refine (Hc.out _ HB2.out).mono ?_; rintro e W3 ⟨rfl, b⟩; have HB3 := Lib.hid b; clear b HB2)
    | (go_at_call 25; refine (Hd.out _ HB3.out).mono ?_; rintro e W4 ⟨rfl, b⟩; have HB4 := Lib.hid b; clear b HB3)
    | (go_at_call 20; refine (He.out _ HB4.out).mono ?_; rintro e W5 ⟨rfl, b⟩; have HB5 := Lib.hid b; clear b HB4))
  exact bodyPost_ret (v := .bool true) (by simp [results, Try.results7, go_sem]) rfl ⟨rfl, HB5.out⟩
theorem c7 (l1 l2 : List S39) (A1 : Option Addr) (n1 c1 : Nat) (A2 : Option Addr) (n2 c2 : Nat) (x : Int) (w : World) (hn1 : l1.length = n1) (hn2 : l2.length = n2) (hc1 : n1 ≤ c1) (hc2 : n2 ≤ c2) (hC1 : Kd.C k39 w A1 n1 l1) (hC2 : Kd.C k39 w A2 n2 l2) :
    Calls Try.prog 7 #[.slice A1 n1 c1, .slice A2 n2 c2, .int .i64 x] w fun e w' => e = .returned (.bool true) ∧ Below w.heap.size w w' := by
  by_cases h0 : (n1 : Int) > 2147483647
  · exact c7_l1 A1 n1 c1 A2 n2 c2 x w (decide_eq_true h0)
  have h0' : decide ((n1 : Int) > 2147483647) = false := decide_eq_false h0
  by_cases h1 : (n2 : Int) > 2147483647
  · exact c7_l2 A1 n1 c1 A2 n2 c2 x w h0' (decide_eq_true h1)
  have h1' : decide ((n2 : Int) > 2147483647) = false := decide_eq_false h1
  obtain ⟨p1, e1, f1⟩ := proper_f l1 (by omega)
  obtain ⟨p2, e2, f2⟩ := proper_f l2 (by omega)
  obtain ⟨q1, e3, f3⟩ := has_f l1 (by omega) x
  obtain ⟨q2, e4, f4⟩ := has_f l2 (by omega) x
  subst hn1 hn2
  have Ha : ∀ v, p1 = v → Hid (∀ W, Below w.heap.size w W → Calls Try.prog 13 #[.slice A1 l1.length c1] W fun e w' => e = .returned (.bool v) ∧ Below w.heap.size w w') := fun v hv => Lib.hid (fun W hb => (spec_Proper.calls _ A1 c1 l1 v W (Kd.C_below hC1 hb) hc1 (hv ▸ e1)).mono (fun e w' q => ⟨q.1, hb.trans (q.2.mono hb.size)⟩))
  have Hb : ∀ v, p2 = v → Hid (∀ W, Below w.heap.size w W → Calls Try.prog 13 #[.slice A2 l2.length c2] W fun e w' => e = .returned (.bool v) ∧ Below w.heap.size w w') := fun v hv => Lib.hid (fun W hb => (spec_Proper.calls _ A2 c2 l2 v W (Kd.C_below hC2 hb) hc2 (hv ▸ e2)).mono (fun e w' q => ⟨q.1, hb.trans (q.2.mono hb.size)⟩))
  have Hc : ∀ v, q1 = v → Hid (∀ W, Below w.heap.size w W → Calls Try.prog 25 #[.slice A1 l1.length c1, .int .i64 x] W fun e w' => e = .returned (.bool v) ∧ Below w.heap.size w w') := fun v hv => Lib.hid (fun W hb => (spec_SetHas.calls _ A1 c1 l1 x v W (Kd.C_below hC1 hb) hc1 (hv ▸ e3)).mono (fun e w' q => ⟨q.1, hb.trans (q.2.mono hb.size)⟩))
  have Hd : ∀ v, q2 = v → Hid (∀ W, Below w.heap.size w W → Calls Try.prog 25 #[.slice A2 l2.length c2, .int .i64 x] W fun e w' => e = .returned (.bool v) ∧ Below w.heap.size w w') := fun v hv => Lib.hid (fun W hb => (spec_SetHas.calls _ A2 c2 l2 x v W (Kd.C_below hC2 hb) hc2 (hv ▸ e4)).mono (fun e w' q => ⟨q.1, hb.trans (q.2.mono hb.size)⟩))
  have He : Hid (∀ W, Below w.heap.size w W → Calls Try.prog 14 #[] W fun e w' => e = .returned (.bool true) ∧ Below w.heap.size w w') := Lib.hid (fun W hb => (laws_ivWorks.calls true W ivWorks_f).mono (fun e w' q => ⟨q.1, hb.trans (q.2.mono hb.size)⟩))
  cases k1 : p1 with
  | false => exact c7_0 A1 _ c1 A2 _ c2 x w h0' h1' (Ha _ k1) He
  | true =>
  cases k2 : p2 with
  | false => exact c7_1 A1 _ c1 A2 _ c2 x w h0' h1' (Ha _ k1) (Hb _ k2) He
  | true =>
  cases k3 : q1 with
  | false => exact c7_2 A1 _ c1 A2 _ c2 x w h0' h1' (Ha _ k1) (Hb _ k2) (Hc _ k3) He
  | true =>
  cases k4 : q2 with
  | false => exact c7_3 A1 _ c1 A2 _ c2 x w h0' h1' (Ha _ k1) (Hb _ k2) (Hc _ k3) (Hd _ k4) He
  | true =>
  obtain ⟨g1, o1, m1⟩ := f1 k1
  obtain ⟨g2, o2, m2⟩ := f2 k2
  have hov : setsOv (l1.map s9) (l2.map s9) = true := (setsOv_iff _ _ _ g1 g2).2 ⟨x, f3.1 k3, f4.1 k4⟩
  exact c7_4 A1 _ c1 A2 _ c2 x w h0' h1' (Ha _ k1) (Hb _ k2) (Hc _ k3) (Hd _ k4) (Lib.hid (fun W hb => (c20 l1 l2 ⟨g1, o1, m1⟩ ⟨g2, o2, m2⟩ A1 c1 A2 c2 _ _ rfl rfl hc1 hc2 W (Kd.C_below hC1 hb) (Kd.C_below hC2 hb)).mono (fun e w' q => ⟨by rw [q.1, hov], hb.trans (q.2.mono hb.size)⟩)))
theorem c7r (l1 : List S39) (A1 : Option Addr) (n1 c1 : Nat) (l2 : List S39) (A2 : Option Addr) (n2 c2 : Nat) (x : Int) (w : World) (hn1 : l1.length = n1) (hc1 : n1 ≤ c1) (hC1 : Kd.C k39 w A1 n1 l1) (hn2 : l2.length = n2) (hc2 : n2 ≤ c2) (hC2 : Kd.C k39 w A2 n2 l2) (_ : (Lit.int .i64 x).wf = true) :
    Calls Try.prog 7 #[.slice A1 n1 c1, .slice A2 n2 c2, .int .i64 x] w fun e w' => e = .returned (.bool true) ∧ Below w.heap.size w w' := c7 l1 l2 A1 n1 c1 A2 n2 c2 x w hn1 hn2 hc1 hc2 hC1 hC2
end Go.Proofs.Ytmfffeoodlmnbaa.C7
