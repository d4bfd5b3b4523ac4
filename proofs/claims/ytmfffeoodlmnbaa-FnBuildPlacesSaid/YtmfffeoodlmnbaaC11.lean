/- laws.FnBuildPlaces: it returns true. The walk. -/
import Derived.Test.YtmfffeoodlmnbaaPb
import Derived.Test.YtmfffeoodlmnbaaPl
import Derived.Test.YtmfffeoodlmnbaaFi
import Derived.Test.YtmfffeoodlmnbaaBb
import Derived.Test.YtmfffeoodlmnbaaBld
import Derived.Test.YtmfffeoodlmnbaaRe
import Derived.Test.YtmfffeoodlmnbaaC3
namespace Go.Proofs.Ytmfffeoodlmnbaa.C11
set_option linter.unusedSimpArgs false
set_option linter.unusedVariables false
open Go.RowKit Go.Proofs.YtmfffeoodlmnbaaW.PrintWords Go.Proofs.YtmfffeoodlmnbaaW.PrintLast Go.Proofs.YtmfffeoodlmnbaaW.PrintMore Go.Proofs.Ytmfffeoodlmnbaa.Kit Go.Proofs.Ytmfffeoodlmnbaa.Sp Go.Proofs.Ytmfffeoodlmnbaa.Se Go.Proofs.Ytmfffeoodlmnbaa.In Go.Proofs.Ytmfffeoodlmnbaa.Iv Go.Proofs.Ytmfffeoodlmnbaa.Vp Go.Proofs.Ytmfffeoodlmnbaa.Ov Go.Proofs.Ytmfffeoodlmnbaa.Mi Go.Proofs.Ytmfffeoodlmnbaa.Mr Go.Proofs.Ytmfffeoodlmnbaa.Pj Go.Proofs.Ytmfffeoodlmnbaa.Bu Go.Proofs.Ytmfffeoodlmnbaa.Re Go.Proofs.Ytmfffeoodlmnbaa.C3 Go.Proofs.Ytmfffeoodlmnbaa.Fi Go.Proofs.Ytmfffeoodlmnbaa.Bb Go.Proofs.Ytmfffeoodlmnbaa.Bd18 Go.Proofs.Ytmfffeoodlmnbaa.Pb Go.Proofs.Ytmfffeoodlmnbaa.Pl Go.Proofs.Ytmfffeoodlmnbaa.Mw
theorem c11_l (A : Option Addr) (n c : Nat) (x : Int) (w : World) (h : decide ((n : Int) > 2147483647) = true) :
    Calls Try.prog 11 #[.slice A n c, .int .i64 x] w fun e w' => e = .returned (.bool true) ∧ Below w.heap.size w w' := by
  go_enter Try.func11, Try.ntmps11
  go_wp2
  exact bodyPost_ret (v := .bool true) (by simp [results, Try.results11, go_sem]) rfl ⟨rfl, Below.refl _ _⟩
set_option maxHeartbeats 8000000 in
theorem c11_n (A : Option Addr) (n c : Nat) (x : Int) (w : World) (h : decide ((n : Int) > 2147483647) = false) (H17 : Hid (Calls Try.prog 17 #[.slice A n c] w fun e w' => e = .returned (.bool false) ∧ Below w.heap.size w w')) :
    Calls Try.prog 11 #[.slice A n c, .int .i64 x] w fun e w' => e = .returned (.bool true) ∧ Below w.heap.size w w' := by
  have H14 : Hid (∀ W, Calls Try.prog 14 #[] W fun e w' => e = .returned (.bool true) ∧ Below W.heap.size W w') := Lib.hid (fun W => laws_ivWorks.calls true W ivWorks_f)
  go_enter Try.func11, Try.ntmps11
  go_wp2_with (first
    | (go_at_call 17; refine H17.out.mono ?_; rintro e W1 ⟨rfl, b⟩; have HB := Lib.hid b; clear b)
    | (go_at_call 14; refine (H14.out _).mono ?_; rintro e W2 ⟨rfl, b⟩; have HB2 := Lib.hid (HB.out.trans (b.mono HB.out.size)); clear b))
  exact bodyPost_ret (v := .bool true) (by simp [results, Try.results11, go_sem]) rfl ⟨rfl, HB2.out⟩
set_option maxHeartbeats 8000000 in
theorem c11_true (A : Option Addr) (n c : Nat) (x : Int) (w : World) (R : List Iv.Sp) (h : decide ((n : Int) > 2147483647) = false) (H17 : Hid (Calls Try.prog 17 #[.slice A n c] w fun e w' => e = .returned (.bool true) ∧ Below w.heap.size w w'))
    (H18 : Hid (∀ W, Below w.heap.size w W → Calls Try.prog 18 #[.slice A n c] W fun e w' => ∃ (A' : Option Addr) (n' c' : Nat) (L : List S39), e = .returned (.tuple #[.slice A' n' c', .bool true]) ∧ L.length = n' ∧ n' ≤ c' ∧ Kd.C k39 w' A' n' L ∧ L.map s9 = R ∧ Below W.heap.size W w'))
    (H25 : Hid (∀ (L : List S39) (A' : Option Addr) (n' c' : Nat), L.map s9 = R → L.length = n' → n' ≤ c' → ∀ W, Kd.C k39 W A' n' L → Calls Try.prog 25 #[.slice A' n' c', .int .i64 x] W fun e w' => e = .returned (.bool true) ∧ Below W.heap.size W w'))
    (H19 : Hid (∀ W, Below w.heap.size w W → Calls Try.prog 19 #[.slice A n c, .int .i64 x] W fun e w' => e = .returned (.bool true) ∧ Below W.heap.size W w')) :
    Calls Try.prog 11 #[.slice A n c, .int .i64 x] w fun e w' => e = .returned (.bool true) ∧ Below w.heap.size w w' := by
  have H14 : Hid (∀ W, Calls Try.prog 14 #[] W fun e w' => e = .returned (.bool true) ∧ Below W.heap.size W w') := Lib.hid (fun W => laws_ivWorks.calls true W ivWorks_f)
  go_enter Try.func11, Try.ntmps11
  go_wp2_with (first
    | (go_at_call 17; refine H17.out.mono ?_; rintro e W1 ⟨rfl, b⟩; have HB := Lib.hid b; clear b)
    | (go_at_call 18; refine (H18.out _ HB.out).mono ?_; rintro e W2 ⟨X, nX, cX, L, rfl, q1, q2, q3, q4, b⟩; have HB2 := Lib.hid (HB.out.trans (b.mono HB.out.size)); have Z := Lib.hid (And.intro q1 (And.intro q2 q4)); have Z2 := Lib.hid q3; clear b q1 q2 q3 q4)
    | (go_at_call 25; refine (H25.out L X nX cX Z.out.2.2 Z.out.1 Z.out.2.1 _ Z2.out).mono ?_; rintro e W3 ⟨rfl, b⟩; have HB3 := Lib.hid (HB2.out.trans (b.mono HB2.out.size)); clear b)
    | (go_at_call 19; refine (H19.out _ HB3.out).mono ?_; rintro e W4 ⟨rfl, b⟩; have HB4 := Lib.hid (HB3.out.trans (b.mono HB3.out.size)); clear b)
    | (go_at_call 14; refine (H14.out _).mono ?_; rintro e W5 ⟨rfl, b⟩; have HB5 := Lib.hid (HB4.out.trans (b.mono HB4.out.size)); clear b))
  exact bodyPost_ret (v := .bool true) (by simp [results, Try.results11, go_sem]) rfl ⟨rfl, HB5.out⟩
set_option maxHeartbeats 8000000 in
theorem c11_false (A : Option Addr) (n c : Nat) (x : Int) (w : World) (R : List Iv.Sp) (h : decide ((n : Int) > 2147483647) = false) (H17 : Hid (Calls Try.prog 17 #[.slice A n c] w fun e w' => e = .returned (.bool true) ∧ Below w.heap.size w w'))
    (H18 : Hid (∀ W, Below w.heap.size w W → Calls Try.prog 18 #[.slice A n c] W fun e w' => ∃ (A' : Option Addr) (n' c' : Nat) (L : List S39), e = .returned (.tuple #[.slice A' n' c', .bool true]) ∧ L.length = n' ∧ n' ≤ c' ∧ Kd.C k39 w' A' n' L ∧ L.map s9 = R ∧ Below W.heap.size W w'))
    (H25 : Hid (∀ (L : List S39) (A' : Option Addr) (n' c' : Nat), L.map s9 = R → L.length = n' → n' ≤ c' → ∀ W, Kd.C k39 W A' n' L → Calls Try.prog 25 #[.slice A' n' c', .int .i64 x] W fun e w' => e = .returned (.bool false) ∧ Below W.heap.size W w'))
    (H19 : Hid (∀ W, Below w.heap.size w W → Calls Try.prog 19 #[.slice A n c, .int .i64 x] W fun e w' => e = .returned (.bool false) ∧ Below W.heap.size W w')) :
    Calls Try.prog 11 #[.slice A n c, .int .i64 x] w fun e w' => e = .returned (.bool true) ∧ Below w.heap.size w w' := by
  have H14 : Hid (∀ W, Calls Try.prog 14 #[] W fun e w' => e = .returned (.bool true) ∧ Below W.heap.size W w') := Lib.hid (fun W => laws_ivWorks.calls true W ivWorks_f)
  go_enter Try.func11, Try.ntmps11
  go_wp2_with (first
    | (go_at_call 17; refine H17.out.mono ?_; rintro e W1 ⟨rfl, b⟩; have HB := Lib.hid b; clear b)
    | (go_at_call 18; refine (H18.out _ HB.out).mono ?_; rintro e W2 ⟨X, nX, cX, L, rfl, q1, q2, q3, q4, b⟩; have HB2 := Lib.hid (HB.out.trans (b.mono HB.out.size)); have Z := Lib.hid (And.intro q1 (And.intro q2 q4)); have Z2 := Lib.hid q3; clear b q1 q2 q3 q4)
    | (go_at_call 25; refine (H25.out L X nX cX Z.out.2.2 Z.out.1 Z.out.2.1 _ Z2.out).mono ?_; rintro e W3 ⟨rfl, b⟩; have HB3 := Lib.hid (HB2.out.trans (b.mono HB2.out.size)); clear b)
    | (go_at_call 19; refine (H19.out _ HB3.out).mono ?_; rintro e W4 ⟨rfl, b⟩; have HB4 := Lib.hid (HB3.out.trans (b.mono HB3.out.size)); clear b)
    | (go_at_call 14; refine (H14.out _).mono ?_; rintro e W5 ⟨rfl, b⟩; have HB5 := Lib.hid (HB4.out.trans (b.mono HB4.out.size)); clear b))
  exact bodyPost_ret (v := .bool true) (by simp [results, Try.results11, go_sem]) rfl ⟨rfl, HB5.out⟩
theorem c11r (l : List S32) (A : Option Addr) (n c : Nat) (x : Int) (w : World) (hn : l.length = n) (hc : n ≤ c) (hC : Kd.C k32 w A n l) (_ : (Lit.int .i64 x).wf = true) :
    Calls Try.prog 11 #[.slice A n c, .int .i64 x] w fun e w' => e = .returned (.bool true) ∧ Below w.heap.size w w' := by
  by_cases h0 : (n : Int) > 2147483647
  · exact c11_l A n c x w (decide_eq_true h0)
  obtain ⟨r, hr, hk⟩ := back_f l
  subst hn
  have H17 : Hid (Calls Try.prog 17 #[.slice A l.length c] w fun e w' => e = .returned (.bool r) ∧ Below w.heap.size w w') := Lib.hid (spec_Backwards.calls _ A c l r w hC hc hr)
  cases r with
  | false => exact c11_n A _ c x w (decide_eq_false h0) H17
  | true =>
    have hb := hk rfl
    obtain ⟨hl1, hl2⟩ := lv_f l hb x
    have hlen := bfold_len (l.map ev) [] false
    simp only [List.length_map, List.length_nil, Nat.zero_add] at hlen
    have H25 : ∀ v, lv l x = v → Hid (∀ (L : List S39) (A' : Option Addr) (n' c' : Nat), L.map s9 = Iv.bfold [] false (l.map ev) → L.length = n' → n' ≤ c' → ∀ W, Kd.C k39 W A' n' L → Calls Try.prog 25 #[.slice A' n' c', .int .i64 x] W fun e w' => e = .returned (.bool v) ∧ Below W.heap.size W w') := fun v hv => Lib.hid (fun L A' n' c' hL hn hc W hC => by
      have hm : L.length ≤ l.length := by rw [← hL, List.length_map] at hlen; exact hlen
      obtain ⟨q, e3, f3⟩ := has_f L (by have := hb.1; omega) x
      subst hn
      have : q = v := by
        rw [hL, ← hl2, hv] at f3
        cases q <;> cases v <;> simp_all
      subst this
      exact spec_SetHas.calls _ A' c' L x q W hC hc e3)
    have H19 : ∀ v, lv l x = v → Hid (∀ W, Below w.heap.size w W → Calls Try.prog 19 #[.slice A l.length c, .int .i64 x] W fun e w' => e = .returned (.bool v) ∧ Below W.heap.size W w') := fun v hv => Lib.hid (fun W hW => (spec_Live.calls _ A c l x v W (Kd.C_below hC hW) hc (hv ▸ hl1)).mono (fun e w' q => ⟨q.1, q.2.below⟩))
    have H18 : Hid (∀ W, Below w.heap.size w W → Calls Try.prog 18 #[.slice A l.length c] W fun e w' => ∃ (A' : Option Addr) (n' c' : Nat) (L : List S39), e = .returned (.tuple #[.slice A' n' c', .bool true]) ∧ L.length = n' ∧ n' ≤ c' ∧ Kd.C k39 w' A' n' L ∧ L.map s9 = Iv.bfold [] false (l.map ev) ∧ Below W.heap.size W w') := Lib.hid (fun W hW => c18 l A _ c rfl hb.1 W (Kd.C_below hC hW) hb.hev (-1) hb.gap)
    cases hv : lv l x with
    | true => exact c11_true A _ c x w (Iv.bfold [] false (l.map ev)) (decide_eq_false h0) H17 H18 (H25 _ hv) (H19 _ hv)
    | false => exact c11_false A _ c x w (Iv.bfold [] false (l.map ev)) (decide_eq_false h0) H17 H18 (H25 _ hv) (H19 _ hv)
end Go.Proofs.Ytmfffeoodlmnbaa.C11
