/- check, Check, impl.Check; laws.FnCheckGood: it returns true. The walks. -/
import Derived.Test.YtmfffeoodlmnbaaC8
namespace Go.Proofs.Ytmfffeoodlmnbaa.C3
set_option linter.unusedSimpArgs false
set_option linter.unusedVariables false
open Go.RowKit Go.Proofs.YtmfffeoodlmnbaaW.PrintWords Go.Proofs.YtmfffeoodlmnbaaW.PrintLast Go.Proofs.YtmfffeoodlmnbaaW.PrintMore Go.Proofs.Ytmfffeoodlmnbaa.Kit Go.Proofs.Ytmfffeoodlmnbaa.Sp Go.Proofs.Ytmfffeoodlmnbaa.Se Go.Proofs.Ytmfffeoodlmnbaa.In Go.Proofs.Ytmfffeoodlmnbaa.Iv Go.Proofs.Ytmfffeoodlmnbaa.Vp Go.Proofs.Ytmfffeoodlmnbaa.Ov Go.Proofs.Ytmfffeoodlmnbaa.Mi Go.Proofs.Ytmfffeoodlmnbaa.Mr Go.Proofs.Ytmfffeoodlmnbaa.Pj Go.Proofs.Ytmfffeoodlmnbaa.Mw Go.Proofs.Ytmfffeoodlmnbaa.Pk Go.Proofs.Ytmfffeoodlmnbaa.C8
theorem gap_63 (l : List S63) : ∀ lo, Gap lo (l.map sp) → ∀ i, (h : i < l.length) → l[i].f0 < l[i].f1 ∧ (0 < i → ∀ (h' : i - 1 < l.length), l[i - 1].f1 < l[i].f0 ∧ l[i - 1].f0 < l[i].f0) := by
  induction l with
  | nil => intro lo _ i h; simp at h
  | cons a l ih =>
    intro lo hg i h
    rw [List.map_cons] at hg
    cases i with
    | zero => exact ⟨hg.2.1, by omega⟩
    | succ i =>
      have hi : i < l.length := by simpa using h
      have := ih _ hg.2.2 i hi
      refine ⟨this.1, fun _ h' => ?_⟩
      cases i with
      | zero =>
        cases l with
        | nil => simp at hi
        | cons b l =>
          have h1 : a.f1 < b.f0 := hg.2.2.1
          have h2 : a.f0 < a.f1 := hg.2.1
          exact ⟨h1, by show a.f0 < b.f0; omega⟩
      | succ i => exact this.2 (by omega) (by omega)
theorem gap_rd (l : List S63) (lo : Int) (hg : Gap lo (l.map sp)) (k : Nat) (h : k < l.length) : (rd_T63 l (k : Int)).f0 < (rd_T63 l (k : Int)).f1 ∧ (0 < k → (rd_T63 l ((k : Int) - 1)).f1 < (rd_T63 l (k : Int)).f0 ∧ (rd_T63 l ((k : Int) - 1)).f0 < (rd_T63 l (k : Int)).f0) := by
  obtain ⟨g1, g2⟩ := gap_63 l lo hg k h
  rw [rd_get l k h]
  refine ⟨g1, fun hp => ?_⟩
  rw [show ((k : Int) - 1) = ((k - 1 : Nat) : Int) from by omega, rd_get l (k - 1) (by omega)]
  exact g2 hp (by omega)
set_option maxHeartbeats 8000000 in
set_option maxRecDepth 100000 in
theorem c40_0 (l : List S63) (A : Option Addr) (n c : Nat) (hn : l.length = n) (hl : n ≤ 8000000) (h0 : n = 0) (w : World) (hC : Kd.C k63 w A n l) (lo : Int) (hg : Gap lo (l.map sp)) :
    Calls Try.prog 40 #[.slice A n c] w fun e w' => e = .returned .nilIface ∧ Below w.heap.size w w' := by
  have HC := Lib.hid hC
  have H := Lib.hid (And.intro hn (And.intro hl hg))
  have H0 := Lib.hid h0
  clear hn hl hC hg h0
  go_enter Try.func40, Try.ntmps40
  go_wp2_with fail
  go_loopw [3] (fun i wr => ∃ k : Nat, i = .int .i64 k ∧ k ≤ n ∧ wr = w) (fun i _ => n - (intOf i).toNat)
  case atStart => exact ⟨0, rfl, Nat.zero_le _, rfl⟩
  case round =>
    obtain ⟨k, rfl, hk, rfl⟩ := hrel
    obtain ⟨hn, hl, hg⟩ := H.out
    have hkn : ¬ k < n := by have := H0.out; omega
    have t0 : decide ((k : Int) < (n : Int)) = false := decide_eq_false (by omega)
    have t0n : (k < n) = False := eq_false hkn
    clear hn hl hg hkn hk
    go_wp2
    exact bodyPost_ret (v := .nilIface) (by simp [results, Try.results40, go_sem]) rfl ⟨rfl, Below.refl _ _⟩
set_option maxHeartbeats 8000000 in
set_option maxRecDepth 100000 in
theorem c40_1 (l : List S63) (A : Option Addr) (n c : Nat) (hn : l.length = n) (hl : n ≤ 8000000) (h0 : 0 < n) (w : World) (hC : Kd.C k63 w A n l) (lo : Int) (hg : Gap lo (l.map sp)) :
    Calls Try.prog 40 #[.slice A n c] w fun e w' => e = .returned .nilIface ∧ Below w.heap.size w w' := by
  obtain ⟨ad, e, _, _⟩ := at_T63 hC 0 (Int.le_refl 0) (by omega)
  cases e
  have HX : Hid (∀ i : Int, 0 ≤ i → i < (n : Int) → w.cell? (ad.add (i.toNat * 2)) = some (.int .i64 (rd_T63 l i).f0) ∧ w.cell? ⟨(ad.add (i.toNat * 2)).block, (ad.add (i.toNat * 2)).off + 1, none⟩ = some (.int .i64 (rd_T63 l i).f1)) := Lib.hid (fun i h0 h1 => by
    obtain ⟨ad', e, x0, x1⟩ := at_T63 hC i h0 h1
    cases e
    exact ⟨x0, x1⟩)
  have H := Lib.hid (And.intro hn (And.intro hl hg))
  clear hn hl hC hg h0
  go_enter Try.func40, Try.ntmps40
  go_wp2_with fail
  go_loopw [3] (fun i wr => ∃ k : Nat, i = .int .i64 k ∧ k ≤ n ∧ wr = w) (fun i _ => n - (intOf i).toNat)
  case atStart => exact ⟨0, rfl, Nat.zero_le _, rfl⟩
  case round =>
    obtain ⟨k, rfl, hk, rfl⟩ := hrel
    obtain ⟨hn, hl, hg⟩ := H.out
    by_cases hkn : k < n
    · obtain ⟨g1, g2⟩ := gap_rd l lo hg k (by omega)
      obtain ⟨x0, x1⟩ := HX.out k (by omega) (by omega)
      rw [Int.toNat_natCast] at x0 x1
      have t0 : decide ((k : Int) < (n : Int)) = true := decide_eq_true (by omega)
      have t1 : decide ((rd_T63 l (k : Int)).f1 ≤ (rd_T63 l (k : Int)).f0) = false := decide_eq_false (by omega)
      have z0 : ((0 : Int) ≤ (k : Int)) = True := eq_true (by omega)
      have z1 : ((k : Int) < (n : Int)) = True := eq_true (by omega)
      have s1 : wrap64 ((k : Int) + 1) = (k : Int) + 1 := w64' _ (by omega) (by omega)
      by_cases h0 : k = 0
      · have e0 : ((k : Int) == 0) = true := by subst h0; rfl
        have HK := Lib.hid (And.intro hkn hk)
        clear hn hl hg g1 g2 hkn hk h0
        go_wp2
        rw [s1]
        go_roundw
        case rel => exact ⟨k + 1, by rw [Int.natCast_add]; rfl, HK.out.1, trivial⟩
        case measure =>
          have h1 := HK.out.1
          clear s1
          show n - ((k : Int) + 1).toNat < n - ((k : Int)).toNat
          omega
      · have e0 : ((k : Int) == 0) = false := beq_false_of_ne (by omega)
        obtain ⟨g3, g4⟩ := g2 (by omega)
        obtain ⟨i1, hi1⟩ : ∃ i1 : Int, (k : Int) - 1 = i1 := ⟨_, rfl⟩
        obtain ⟨y0, y1⟩ := HX.out i1 (by omega) (by omega)
        rw [hi1] at g3 g4
        have s2 : wrap64 i1 = i1 := w64' _ (by omega) (by omega)
        have z2 : ((0 : Int) ≤ i1) = True := eq_true (by omega)
        have z3 : (i1 < (n : Int)) = True := eq_true (by omega)
        have t2 : decide ((rd_T63 l i1).f0 ≥ (rd_T63 l (k : Int)).f0) = false := decide_eq_false (by omega)
        have t3 : decide ((rd_T63 l i1).f1 > (rd_T63 l (k : Int)).f0) = false := decide_eq_false (by omega)
        have HK := Lib.hid (And.intro hkn hk)
        generalize (rd_T63 l i1) = p at *
        generalize rd_T63 l (k : Int) = q at *
        clear hn hl hg g1 g2 g3 g4 hkn hk h0
        go_wp2
        rw [s1]
        go_roundw
        case rel => exact ⟨k + 1, by rw [Int.natCast_add]; rfl, HK.out.1, trivial⟩
        case measure =>
          have h1 := HK.out.1
          clear s1
          show n - ((k : Int) + 1).toNat < n - ((k : Int)).toNat
          omega
    · have t0 : decide ((k : Int) < (n : Int)) = false := decide_eq_false (by omega)
      have t0n : (k < n) = False := eq_false hkn
      clear hn hl hg hkn hk
      go_wp2
      exact bodyPost_ret (v := .nilIface) (by simp [results, Try.results40, go_sem]) rfl ⟨rfl, Below.refl _ _⟩
theorem c40 (l : List S63) (A : Option Addr) (n c : Nat) (hn : l.length = n) (hl : n ≤ 8000000) (w : World) (hC : Kd.C k63 w A n l) (lo : Int) (hg : Gap lo (l.map sp)) :
    Calls Try.prog 40 #[.slice A n c] w fun e w' => e = .returned .nilIface ∧ Below w.heap.size w w' := by
  rcases Nat.eq_zero_or_pos n with h | h
  · exact c40_0 l A n c hn hl h w hC lo hg
  · exact c40_1 l A n c hn hl h w hC lo hg
set_option maxHeartbeats 8000000 in
theorem c27 (l : List S63) (A : Option Addr) (n c : Nat) (hn : l.length = n) (hl : n ≤ 8000000) (w : World) (hC : Kd.C k63 w A n l) (lo : Int) (hg : Gap lo (l.map sp)) :
    Calls Try.prog 27 #[.slice A n c] w fun e w' => e = .returned .nilIface ∧ Below w.heap.size w w' := by
  have H := Lib.hid (c40 l A n c hn hl w hC lo hg)
  clear hn hl hC hg
  go_enter Try.func27, Try.ntmps27
  go_wp2_with (go_at_call 40; refine H.out.mono ?_; rintro e W1 ⟨rfl, b⟩; have HB := Lib.hid b; clear b H)
  exact bodyPost_ret (v := .nilIface) (by simp [results, Try.results27, go_sem]) rfl ⟨rfl, HB.out⟩
set_option maxHeartbeats 8000000 in
theorem c15 (w : World) (N : Nat) (hN : N ≤ 4000000) (l : List S39) (h : Pn N l) (A : Option Addr) (n c : Nat) (hn : l.length = n) (hc : n ≤ c) (W : World) (hb : Below w.heap.size w W) (hC : Kd.C k39 W A n l) :
    Calls Try.prog 15 #[.slice A n c] W fun e w' => e = .returned (.bool true) ∧ Below w.heap.size w w' := by
  obtain ⟨r, hr⟩ : ∃ r, l.map cv = r := ⟨_, rfl⟩
  have H1 := Lib.hid (in_c l (by have := h.len; omega) A n c hn hc W hC r hr)
  have H2 : Hid (∀ W B m d, r.length = m → Kd.C k63 W B m r → Calls Try.prog 27 #[.slice B m d] W fun e w' => e = .returned .nilIface ∧ Below W.heap.size W w') := Lib.hid (fun W B m d q k => c27 r B m d q (by rw [← q, ← hr, List.length_map]; have := h.len; omega) W k _ (by rw [← hr, sp_cv]; exact h.gap))
  have HB0 := Lib.hid hb
  clear h hn hc hC hr hb
  go_enter Try.func15, Try.ntmps15
  go_wp2_with (first
    | (go_at_call 28; refine H1.out.mono ?_; rintro e W1 ⟨B1, m1, d1, rfl, q1, q2, k1, b1⟩; have K1 := Lib.hid k1; have HB := Lib.hid (HB0.out.trans (b1.mono HB0.out.size)); have Q1 := Lib.hid q1; clear H1 k1 b1 q1 q2)
    | (go_at_call 27; refine (H2.out _ _ _ _ Q1.out K1.out).mono ?_; rintro e W2 ⟨rfl, b⟩; have HB2 := Lib.hid (HB.out.trans (b.mono HB.out.size)); clear b))
  exact bodyPost_ret (v := .bool true) (by simp [results, Try.results15, go_sem]) rfl ⟨rfl, HB2.out⟩
theorem c3_l1 (A1 : Option Addr) (n1 c1 : Nat) (A2 : Option Addr) (n2 c2 : Nat) (w : World) (h1 : decide ((n1 : Int) > 2147483647) = true) :
    Calls Try.prog 3 #[.slice A1 n1 c1, .slice A2 n2 c2] w fun e w' => e = .returned (.bool true) ∧ Below w.heap.size w w' := by
  go_enter Try.func3, Try.ntmps3
  go_wp2
  exact bodyPost_ret (v := .bool true) (by simp [results, Try.results3, go_sem]) rfl ⟨rfl, Below.refl _ _⟩
theorem c3_l2 (A1 : Option Addr) (n1 c1 : Nat) (A2 : Option Addr) (n2 c2 : Nat) (w : World) (h1 : decide ((n1 : Int) > 2147483647) = false) (h2 : decide ((n2 : Int) > 2147483647) = true) :
    Calls Try.prog 3 #[.slice A1 n1 c1, .slice A2 n2 c2] w fun e w' => e = .returned (.bool true) ∧ Below w.heap.size w w' := by
  go_enter Try.func3, Try.ntmps3
  go_wp2
  exact bodyPost_ret (v := .bool true) (by simp [results, Try.results3, go_sem]) rfl ⟨rfl, Below.refl _ _⟩
set_option maxHeartbeats 8000000 in
theorem c3_1 (A1 : Option Addr) (n1 c1 : Nat) (A2 : Option Addr) (n2 c2 : Nat) (w : World) (h1 : decide ((n1 : Int) > 2147483647) = false) (h2 : decide ((n2 : Int) > 2147483647) = false)
    (P1 : Hid (∀ W, Below w.heap.size w W → Calls Try.prog 13 #[.slice A1 n1 c1] W fun e w' => e = .returned (.bool false) ∧ Below w.heap.size w w'))
    (He : Hid (∀ W, Below w.heap.size w W → Calls Try.prog 14 #[] W fun e w' => e = .returned (.bool true) ∧ Below w.heap.size w w')) :
    Calls Try.prog 3 #[.slice A1 n1 c1, .slice A2 n2 c2] w fun e w' => e = .returned (.bool true) ∧ Below w.heap.size w w' := by
  have HB0 := Lib.hid (Below.refl w.heap.size w)
  go_enter Try.func3, Try.ntmps3
  go_wp2_with (first
    | (go_at_call 13; refine (P1.out _ HB0.out).mono ?_; rintro e W1 ⟨rfl, b⟩; have HB1 := Lib.hid b; clear b HB0)
    | (go_at_call 14; refine (He.out _ HB1.out).mono ?_; rintro e W2 ⟨rfl, b⟩; have HB2 := Lib.hid b; clear b HB1))
  exact bodyPost_ret (v := .bool true) (by simp [results, Try.results3, go_sem]) rfl ⟨rfl, HB2.out⟩
set_option maxHeartbeats 8000000 in
theorem c3_2 (A1 : Option Addr) (n1 c1 : Nat) (A2 : Option Addr) (n2 c2 : Nat) (w : World) (h1 : decide ((n1 : Int) > 2147483647) = false) (h2 : decide ((n2 : Int) > 2147483647) = false)
    (P1 : Hid (∀ W, Below w.heap.size w W → Calls Try.prog 13 #[.slice A1 n1 c1] W fun e w' => e = .returned (.bool true) ∧ Below w.heap.size w w'))
    (P2 : Hid (∀ W, Below w.heap.size w W → Calls Try.prog 13 #[.slice A2 n2 c2] W fun e w' => e = .returned (.bool false) ∧ Below w.heap.size w w'))
    (He : Hid (∀ W, Below w.heap.size w W → Calls Try.prog 14 #[] W fun e w' => e = .returned (.bool true) ∧ Below w.heap.size w w')) :
    Calls Try.prog 3 #[.slice A1 n1 c1, .slice A2 n2 c2] w fun e w' => e = .returned (.bool true) ∧ Below w.heap.size w w' := by
  have HB0 := Lib.hid (Below.refl w.heap.size w)
  go_enter Try.func3, Try.ntmps3
  go_wp2_with (first
    | (go_at_call 13; refine (P1.out _ HB0.out).mono ?_; rintro e W1 ⟨rfl, b⟩; have HB1 := Lib.hid b; clear b HB0)
    | (go_at_call 13; refine (P2.out _ HB1.out).mono ?_; rintro e W2 ⟨rfl, b⟩; have HB2 := Lib.hid b; clear b HB1)
    | (go_at_call 14; refine (He.out _ HB2.out).mono ?_; rintro e W3 ⟨rfl, b⟩; have HB3 := Lib.hid b; clear b HB2))
  exact bodyPost_ret (v := .bool true) (by simp [results, Try.results3, go_sem]) rfl ⟨rfl, HB3.out⟩
set_option maxHeartbeats 8000000 in
theorem c3_all (l1 : List S39) (l2 : List S39) (A1 : Option Addr) (n1 c1 : Nat) (A2 : Option Addr) (n2 c2 : Nat) (w : World) (h1 : decide ((n1 : Int) > 2147483647) = false) (h2 : decide ((n2 : Int) > 2147483647) = false) (hn1 : l1.length = n1) (hc1 : n1 ≤ c1) (hC1 : Kd.C k39 w A1 n1 l1) (q1 : Pn 1000000 l1) (hn2 : l2.length = n2) (hc2 : n2 ≤ c2) (hC2 : Kd.C k39 w A2 n2 l2) (q2 : Pn 1000000 l2)
    (P1 : Hid (∀ W, Below w.heap.size w W → Calls Try.prog 13 #[.slice A1 n1 c1] W fun e w' => e = .returned (.bool true) ∧ Below w.heap.size w w'))
    (P2 : Hid (∀ W, Below w.heap.size w W → Calls Try.prog 13 #[.slice A2 n2 c2] W fun e w' => e = .returned (.bool true) ∧ Below w.heap.size w w'))
    (He : Hid (∀ W, Below w.heap.size w W → Calls Try.prog 14 #[] W fun e w' => e = .returned (.bool true) ∧ Below w.heap.size w w')) :
    Calls Try.prog 3 #[.slice A1 n1 c1, .slice A2 n2 c2] w fun e w' => e = .returned (.bool true) ∧ Below w.heap.size w w' := by
  have HB0 := Lib.hid (Below.refl w.heap.size w)
  have K1 : Hid (∀ W, Below w.heap.size w W → Kd.C k39 W A1 n1 l1) := Lib.hid (fun W hb => Kd.C_below hC1 hb)
  have K2 : Hid (∀ W, Below w.heap.size w W → Kd.C k39 W A2 n2 l2) := Lib.hid (fun W hb => Kd.C_below hC2 hb)
  have HC15 : Hid (∀ W, Below w.heap.size w W → Calls Try.prog 15 #[.slice A1 n1 c1] W fun e w' => e = .returned (.bool true) ∧ Below w.heap.size w w') := Lib.hid (fun W hb => c15 w 1000000 (by omega) l1 q1 A1 n1 c1 hn1 hc1 W hb (K1.out W hb))
  have M1 : Hid (∀ W, Below w.heap.size w W → Calls Try.prog 16 #[.slice A1 n1 c1, .slice A2 n2 c2] W (MG w W (mergeL (l1.map s9) (l2.map s9)))) := Lib.hid (fun W hb => mg w _ _ (by omega) (by omega) l1 l2 q1 q2 A1 n1 c1 A2 n2 c2 hn1 hn2 hc1 hc2 W hb (K1.out W hb) (K2.out W hb) _ rfl)
  have HP : Hid (∀ L : List S39, L.map s9 = mergeL (l1.map s9) (l2.map s9) → Pn 2000000 L) := Lib.hid (fun L hL => q1.merge q2 hL)
  generalize mergeL (l1.map s9) (l2.map s9) = R at M1 HP
  clear hn1 hc1 hC1 q1 K1 hn2 hc2 hC2 q2 K2
  go_enter Try.func3, Try.ntmps3
  go_wp2_with (first
    | (go_at_call 13; refine (P1.out _ HB0.out).mono ?_; rintro e W1 ⟨rfl, b⟩; have HB1 := Lib.hid b; clear b HB0)
    | (go_at_call 13; refine (P2.out _ HB1.out).mono ?_; rintro e W2 ⟨rfl, b⟩; have HB2 := Lib.hid b; clear b HB1)
    | (go_at_call 15; refine (HC15.out _ HB2.out).mono ?_; rintro e W3 ⟨rfl, b⟩; have HB3 := Lib.hid b; clear b HB2 HC15)
    | (go_at_call 16; refine (M1.out _ HB3.out).mono ?_; rintro e W4 ⟨X, nX, cX, L, rfl, q1, q2, q3, q4, q5, b, _⟩; have HB4 := Lib.hid b; have Z1 := Lib.hid (And.intro q1 (And.intro q2 (And.intro q3 q5))); have Z2 := Lib.hid q4; clear b q1 q2 q3 q4 q5 HB3 M1)
    | (go_at_call 15; refine (c15 w 2000000 (by omega) L (HP.out L Z1.out.2.2.2) X nX cX Z1.out.1 Z1.out.2.1 _ HB4.out Z2.out).mono ?_; rintro e W5 ⟨rfl, b⟩; have HB5 := Lib.hid b; clear b))
  exact bodyPost_ret (v := .bool true) (by simp [results, Try.results3, go_sem]) rfl ⟨rfl, HB5.out⟩
theorem c3 (l1 : List S39) (l2 : List S39) (A1 : Option Addr) (n1 c1 : Nat) (A2 : Option Addr) (n2 c2 : Nat) (w : World) (hn1 : l1.length = n1) (hc1 : n1 ≤ c1) (hC1 : Kd.C k39 w A1 n1 l1) (hn2 : l2.length = n2) (hc2 : n2 ≤ c2) (hC2 : Kd.C k39 w A2 n2 l2) :
    Calls Try.prog 3 #[.slice A1 n1 c1, .slice A2 n2 c2] w fun e w' => e = .returned (.bool true) ∧ Below w.heap.size w w' := by
  by_cases h1 : (n1 : Int) > 2147483647
  · exact c3_l1 A1 n1 c1 A2 n2 c2 w (decide_eq_true h1)
  have g1 : decide ((n1 : Int) > 2147483647) = false := decide_eq_false h1
  by_cases h2 : (n2 : Int) > 2147483647
  · exact c3_l2 A1 n1 c1 A2 n2 c2 w g1 (decide_eq_true h2)
  have g2 : decide ((n2 : Int) > 2147483647) = false := decide_eq_false h2
  obtain ⟨p1, e1, f1⟩ := proper_f l1 (by omega)
  obtain ⟨p2, e2, f2⟩ := proper_f l2 (by omega)
  subst hn1 hn2
  have Ha1 : ∀ v, p1 = v → Hid (∀ W, Below w.heap.size w W → Calls Try.prog 13 #[.slice A1 l1.length c1] W fun e w' => e = .returned (.bool v) ∧ Below w.heap.size w w') := fun v hv => Lib.hid (fun W hb => (spec_Proper.calls _ A1 c1 l1 v W (Kd.C_below hC1 hb) hc1 (hv ▸ e1)).mono (fun e w' q => ⟨q.1, hb.trans (q.2.mono hb.size)⟩))
  have Ha2 : ∀ v, p2 = v → Hid (∀ W, Below w.heap.size w W → Calls Try.prog 13 #[.slice A2 l2.length c2] W fun e w' => e = .returned (.bool v) ∧ Below w.heap.size w w') := fun v hv => Lib.hid (fun W hb => (spec_Proper.calls _ A2 c2 l2 v W (Kd.C_below hC2 hb) hc2 (hv ▸ e2)).mono (fun e w' q => ⟨q.1, hb.trans (q.2.mono hb.size)⟩))
  have He : Hid (∀ W, Below w.heap.size w W → Calls Try.prog 14 #[] W fun e w' => e = .returned (.bool true) ∧ Below w.heap.size w w') := Lib.hid (fun W hb => (laws_ivWorks.calls true W ivWorks_f).mono (fun e w' q => ⟨q.1, hb.trans (q.2.mono hb.size)⟩))
  cases k1 : p1 with
  | false => exact c3_1 A1 _ c1 A2 _ c2 w g1 g2 (Ha1 _ k1) He
  | true =>
  cases k2 : p2 with
  | false => exact c3_2 A1 _ c1 A2 _ c2 w g1 g2 (Ha1 _ k1) (Ha2 _ k2) He
  | true =>
  obtain ⟨a1, b1, m1⟩ := f1 k1
  obtain ⟨a2, b2, m2⟩ := f2 k2
  exact c3_all l1 l2 A1 _ c1 A2 _ c2 w g1 g2 rfl hc1 hC1 (proper_n l1 a1 b1 m1) rfl hc2 hC2 (proper_n l2 a2 b2 m2) (Ha1 _ k1) (Ha2 _ k2) He
theorem c3r (l1 : List S39) (A1 : Option Addr) (n1 c1 : Nat) (l2 : List S39) (A2 : Option Addr) (n2 c2 : Nat) (w : World) (hn1 : l1.length = n1) (hc1 : n1 ≤ c1) (hC1 : Kd.C k39 w A1 n1 l1) (hn2 : l2.length = n2) (hc2 : n2 ≤ c2) (hC2 : Kd.C k39 w A2 n2 l2) :
    Calls Try.prog 3 #[.slice A1 n1 c1, .slice A2 n2 c2] w fun e w' => e = .returned (.bool true) ∧ Below w.heap.size w w' := c3 l1 l2 A1 n1 c1 A2 n2 c2 w hn1 hc1 hC1 hn2 hc2 hC2
end Go.Proofs.Ytmfffeoodlmnbaa.C3
