/- laws.FnBuildGood: it returns true. The walk. -/
import Derived.Test.YtmfffeoodlmnbaaPb
import Derived.Test.YtmfffeoodlmnbaaPp
import Derived.Test.YtmfffeoodlmnbaaFi
import Derived.Test.YtmfffeoodlmnbaaBb
import Derived.Test.YtmfffeoodlmnbaaBld
import Derived.Test.YtmfffeoodlmnbaaRe
import Derived.Test.YtmfffeoodlmnbaaC3
namespace Go.Proofs.Ytmfffeoodlmnbaa.C12
set_option linter.unusedSimpArgs false
set_option linter.unusedVariables false
open Go.RowKit Go.Proofs.YtmfffeoodlmnbaaW.PrintWords Go.Proofs.YtmfffeoodlmnbaaW.PrintLast Go.Proofs.YtmfffeoodlmnbaaW.PrintMore Go.Proofs.Ytmfffeoodlmnbaa.Kit Go.Proofs.Ytmfffeoodlmnbaa.Sp Go.Proofs.Ytmfffeoodlmnbaa.Se Go.Proofs.Ytmfffeoodlmnbaa.In Go.Proofs.Ytmfffeoodlmnbaa.Iv Go.Proofs.Ytmfffeoodlmnbaa.Vp Go.Proofs.Ytmfffeoodlmnbaa.Ov Go.Proofs.Ytmfffeoodlmnbaa.Mi Go.Proofs.Ytmfffeoodlmnbaa.Mr Go.Proofs.Ytmfffeoodlmnbaa.Pj Go.Proofs.Ytmfffeoodlmnbaa.Bu Go.Proofs.Ytmfffeoodlmnbaa.Re Go.Proofs.Ytmfffeoodlmnbaa.C3 Go.Proofs.Ytmfffeoodlmnbaa.Fi Go.Proofs.Ytmfffeoodlmnbaa.Bb Go.Proofs.Ytmfffeoodlmnbaa.Bd18 Go.Proofs.Ytmfffeoodlmnbaa.Pb Go.Proofs.Ytmfffeoodlmnbaa.Pp Go.Proofs.Ytmfffeoodlmnbaa.Mw
theorem proper_c (L : List S39) (h : Pn 1000000 L) (A : Option Addr) (n c : Nat) (hn : L.length = n) (hc : n ≤ c) (W : World) (hC : Kd.C k39 W A n L) :
    Calls Try.prog 13 #[.slice A n c] W fun e w' => e = .returned (.bool true) ∧ Below W.heap.size W w' := by
  subst hn
  exact spec_Proper.calls (L.length + 1) A c L true W hC hc (proper_t L h.len _ h.gap h.ok)
theorem c12_l (A : Option Addr) (n c : Nat) (w : World) (h : decide ((n : Int) > 2147483647) = true) :
    Calls Try.prog 12 #[.slice A n c] w fun e w' => e = .returned (.bool true) ∧ Below w.heap.size w w' := by
  go_enter Try.func12, Try.ntmps12
  go_wp2
  exact bodyPost_ret (v := .bool true) (by simp [results, Try.results12, go_sem]) rfl ⟨rfl, Below.refl _ _⟩
set_option maxHeartbeats 8000000 in
theorem c12_n (A : Option Addr) (n c : Nat) (w : World) (h : decide ((n : Int) > 2147483647) = false) (H17 : Hid (Calls Try.prog 17 #[.slice A n c] w fun e w' => e = .returned (.bool false) ∧ Below w.heap.size w w')) :
    Calls Try.prog 12 #[.slice A n c] w fun e w' => e = .returned (.bool true) ∧ Below w.heap.size w w' := by
  have H14 : Hid (∀ W, Calls Try.prog 14 #[] W fun e w' => e = .returned (.bool true) ∧ Below W.heap.size W w') := Lib.hid (fun W => laws_ivWorks.calls true W ivWorks_f)
  go_enter Try.func12, Try.ntmps12
  go_wp2_with (first
    | (go_at_call 17; refine H17.out.mono ?_; rintro e W1 ⟨rfl, b⟩; have HB := Lib.hid b; clear b)
    | (go_at_call 14; refine (H14.out _).mono ?_; rintro e W2 ⟨rfl, b⟩; have HB2 := Lib.hid (HB.out.trans (b.mono HB.out.size)); clear b))
  exact bodyPost_ret (v := .bool true) (by simp [results, Try.results12, go_sem]) rfl ⟨rfl, HB2.out⟩
set_option maxHeartbeats 8000000 in
theorem c12_y (A : Option Addr) (n c : Nat) (w : World) (R : List Iv.Sp) (h : decide ((n : Int) > 2147483647) = false) (H17 : Hid (Calls Try.prog 17 #[.slice A n c] w fun e w' => e = .returned (.bool true) ∧ Below w.heap.size w w'))
    (H18 : Hid (∀ W, Below w.heap.size w W → Calls Try.prog 18 #[.slice A n c] W fun e w' => ∃ (A' : Option Addr) (n' c' : Nat) (L : List S39), e = .returned (.tuple #[.slice A' n' c', .bool true]) ∧ L.length = n' ∧ n' ≤ c' ∧ Kd.C k39 w' A' n' L ∧ L.map s9 = R ∧ Below W.heap.size W w'))
    (HP : Hid (∀ L : List S39, L.map s9 = R → Pn 1000000 L)) :
    Calls Try.prog 12 #[.slice A n c] w fun e w' => e = .returned (.bool true) ∧ Below w.heap.size w w' := by
  go_enter Try.func12, Try.ntmps12
  go_wp2_with (first
    | (go_at_call 17; refine H17.out.mono ?_; rintro e W1 ⟨rfl, b⟩; have HB := Lib.hid b; clear b)
    | (go_at_call 18; refine (H18.out _ HB.out).mono ?_; rintro e W2 ⟨X, nX, cX, L, rfl, q1, q2, q3, q4, b⟩; have HB2 := Lib.hid (HB.out.trans (b.mono HB.out.size)); have Z := Lib.hid (And.intro q1 (And.intro q2 q4)); have Z2 := Lib.hid q3; clear b q1 q2 q3 q4)
    | (go_at_call 15; refine (c15 W2 1000000 (by omega) L (HP.out L Z.out.2.2) X nX cX Z.out.1 Z.out.2.1 W2 (Below.refl _ _) Z2.out).mono ?_; rintro e W3 ⟨rfl, b⟩; have Z3 := Lib.hid (Kd.C_below Z2.out b); have HB3 := Lib.hid (HB2.out.trans (b.mono HB2.out.size)); clear b)
    | (go_at_call 13; refine (proper_c L (HP.out L Z.out.2.2) X nX cX Z.out.1 Z.out.2.1 _ Z3.out).mono ?_; rintro e W4 ⟨rfl, b⟩; have HB4 := Lib.hid (HB3.out.trans (b.mono HB3.out.size)); clear b))
  exact bodyPost_ret (v := .bool true) (by simp [results, Try.results12, go_sem]) rfl ⟨rfl, HB4.out⟩
theorem c12r (l : List S32) (A : Option Addr) (n c : Nat) (w : World) (hn : l.length = n) (hc : n ≤ c) (hC : Kd.C k32 w A n l) :
    Calls Try.prog 12 #[.slice A n c] w fun e w' => e = .returned (.bool true) ∧ Below w.heap.size w w' := by
  by_cases h0 : (n : Int) > 2147483647
  · exact c12_l A n c w (decide_eq_true h0)
  obtain ⟨r, hr, hk⟩ := back_f l
  subst hn
  have H17 : Hid (Calls Try.prog 17 #[.slice A l.length c] w fun e w' => e = .returned (.bool r) ∧ Below w.heap.size w w') := Lib.hid (spec_Backwards.calls _ A c l r w hC hc hr)
  cases r with
  | false => exact c12_n A _ c w (decide_eq_false h0) H17
  | true =>
    have hb := hk rfl
    refine c12_y A _ c w (Iv.bfold [] false (l.map ev)) (decide_eq_false h0) H17 (Lib.hid (fun W hW => c18 l A _ c rfl hb.1 W (Kd.C_below hC hW) hb.hev (-1) hb.gap)) (Lib.hid (fun L hL => ?_))
    have hlen := bfold_len (l.map ev) [] false
    rw [← hL] at hlen
    simp only [List.length_map, List.length_nil, Nat.zero_add] at hlen
    have hg := hb.gap
    have hhi := bfold_hi (l.map ev) [] false 1099511627777 (fun s hs => by cases hs) (fun e he => by have := fall_lt _ _ hb.fall e he; omega)
    rw [← hL] at hg hhi
    refine ⟨hg.mono (by omega), fun s hs => ?_, by have := hb.1; omega⟩
    have h1 := hg.lt s hs
    have h2 := hhi s hs
    exact ⟨by omega, by omega, by omega, by omega⟩
end Go.Proofs.Ytmfffeoodlmnbaa.C12
