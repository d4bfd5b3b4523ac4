/- impl.Pairs: what it returns; laws.FnPairsParts: it returns true. The walks. -/
import Derived.Test.YtmfffeoodlmnbaaZp
import Derived.Test.YtmfffeoodlmnbaaC8
import Derived.Test.YtmfffeoodlmnbaaMw
import Derived.Test.YtmfffeoodlmnbaaPk
namespace Go.Proofs.Ytmfffeoodlmnbaa.C5
set_option linter.unusedSimpArgs false
set_option linter.unusedVariables false
open Go.RowKit Go.Proofs.YtmfffeoodlmnbaaW.PrintWords Go.Proofs.YtmfffeoodlmnbaaW.PrintLast Go.Proofs.YtmfffeoodlmnbaaW.PrintMore Go.Proofs.Ytmfffeoodlmnbaa.Kit Go.Proofs.Ytmfffeoodlmnbaa.Sp Go.Proofs.Ytmfffeoodlmnbaa.Se Go.Proofs.Ytmfffeoodlmnbaa.In Go.Proofs.Ytmfffeoodlmnbaa.Iv Go.Proofs.Ytmfffeoodlmnbaa.Vp Go.Proofs.Ytmfffeoodlmnbaa.Ov Go.Proofs.Ytmfffeoodlmnbaa.Mi Go.Proofs.Ytmfffeoodlmnbaa.Mr Go.Proofs.Ytmfffeoodlmnbaa.Pj Go.Proofs.Ytmfffeoodlmnbaa.Mw Go.Proofs.Ytmfffeoodlmnbaa.Pk Go.Proofs.Ytmfffeoodlmnbaa.Zp Go.Proofs.Ytmfffeoodlmnbaa.C8
def q9 (p : Iv.Sp × Nat) : S39 := ⟨p.1.1, p.1.2⟩
def qi (p : Iv.Sp × Nat) : Int := (p.2 : Int)
theorem pairs_0 (a b : List Iv.Sp) : ((pairs a b).filter (fun p => p.2 == 0)).map (·.1) = a := by
  induction a, b using pairs.induct with
  | case1 b => simp [pairs, List.filter_map, Function.comp_def]
  | case2 s a => simp [pairs, List.filter_map, Function.comp_def]
  | case3 s a t b h ih => simp only [pairs, if_pos h]; rw [List.filter_cons_of_pos (by simp), List.map_cons, ih]
  | case4 s a t b h ih => simp only [pairs, if_neg h]; rw [List.filter_cons_of_neg (by simp), ih]
theorem pairs_1 (a b : List Iv.Sp) : ((pairs a b).filter (fun p => p.2 == 1)).map (·.1) = b := by
  induction a, b using pairs.induct with
  | case1 b => simp [pairs, List.filter_map, Function.comp_def]
  | case2 s a => simp [pairs, List.filter_map, Function.comp_def]
  | case3 s a t b h ih => simp only [pairs, if_pos h]; rw [List.filter_cons_of_neg (by simp), ih]
  | case4 s a t b h ih => simp only [pairs, if_neg h]; rw [List.filter_cons_of_pos (by simp), List.map_cons, ih]
theorem pairs_le (a b : List Iv.Sp) : ∀ p ∈ pairs a b, p.2 ≤ 1 := by
  induction a, b using pairs.induct with
  | case1 b => intro p hp; simp [pairs] at hp; obtain ⟨_, _, _, rfl⟩ := hp; exact Nat.le_refl _
  | case2 s a =>
    intro p hp
    simp only [pairs] at hp
    obtain ⟨x, _, rfl⟩ := List.mem_map.1 hp
    exact Nat.zero_le _
  | case3 s a t b h ih =>
    intro p hp
    simp only [pairs, if_pos h] at hp
    rcases List.mem_cons.1 hp with rfl | hp
    · exact Nat.zero_le _
    · exact ih p hp
  | case4 s a t b h ih =>
    intro p hp
    simp only [pairs, if_neg h] at hp
    rcases List.mem_cons.1 hp with rfl | hp
    · exact Nat.le_refl _
    · exact ih p hp
theorem filter_q9 (P : List (Iv.Sp × Nat)) : P.map q9 = (P.map (·.1)).map (fun s => (⟨s.1, s.2⟩ : S39)) := by rw [List.map_map]; rfl
theorem q9_s9 (l : List S39) : (l.map s9).map (fun s => (⟨s.1, s.2⟩ : S39)) = l := by
  rw [List.map_map]
  exact List.map_id l
/-- impl.Pairs' answer. -/
def PQ (w : World) (P : List (Iv.Sp × Nat)) (e : Ending) (w' : World) : Prop := ∃ (X : Option Addr) (m d : Nat) (Y : Option Addr) (d2 : Nat), e = .returned (.tuple #[.slice X m d, .slice Y m d2]) ∧ P.length = m ∧ Kd.C k39 w' X m (P.map q9) ∧ Kd.C kI w' Y m (P.map qi) ∧ Below w.heap.size w w'
theorem c36s (l1 l2 : List S63) (A1 : Option Addr) (c1 : Nat) (A2 : Option Addr) (c2 : Nat) (w : World) (n1 n2 : Nat) (hn1 : l1.length = n1) (hn2 : l2.length = n2) (hc1 : Kd.C k63 w A1 n1 l1) (hc2 : Kd.C k63 w A2 n2 l2)
    (hl1 : n1 ≤ 4000000) (hl2 : n2 ≤ 4000000) (P : List (Iv.Sp × Nat)) (hP : pairs (l1.map sp) (l2.map sp) = P) :
    Calls Try.prog 36 #[.slice A1 n1 c1, .slice A2 n2 c2] w fun e w' => ∃ (A : Option Addr) (n c : Nat) (Y : Option Addr) (c' : Nat) (L : List S63), e = .returned (.tuple #[.slice A n c, .slice Y n c']) ∧ L.length = n ∧ n ≤ c ∧ Kd.C k63 w' A n L ∧ P.length = n ∧ Kd.C kI w' Y n (P.map qi) ∧ L.map sp = P.map (·.1) ∧ Below w.heap.size w w' := by
  refine (c36 l1 l2 A1 c1 A2 c2 w n1 n2 hn1 hn2 hc1 hc2 hl1 hl2).mono ?_
  have hP' : PL l1 l2 0 0 = P := by unfold PL; rw [List.drop_zero, List.drop_zero]; exact hP
  rintro e w' ⟨v, u, L, O, rfl, r1, r2, h1, h2, hb⟩
  rw [hP'] at h1 h2
  obtain ⟨A, c, rfl, hle, hC⟩ := Kd.R_reads r1
  obtain ⟨Y, c', rfl, hle', hC'⟩ := Kd.R_reads r2
  have e1 : L.length = P.length := by have := congrArg List.length h1; simpa using this
  have e2 : O.length = P.length := by rw [h2, List.length_map]
  subst h2
  rw [e2] at hC' ⊢
  rw [e1] at hC hle ⊢
  exact ⟨A, _, c, Y, c', L, rfl, e1, hle, hC, rfl, hC', h1, hb⟩
set_option maxHeartbeats 8000000 in
theorem c21 (l1 l2 : List S39) (h1 : l1.length ≤ 4000000) (h2 : l2.length ≤ 4000000) (A1 : Option Addr) (n1 c1 : Nat) (A2 : Option Addr) (n2 c2 : Nat) (hn1 : l1.length = n1) (hn2 : l2.length = n2) (hc1 : n1 ≤ c1) (hc2 : n2 ≤ c2) (w : World) (hC1 : Kd.C k39 w A1 n1 l1) (hC2 : Kd.C k39 w A2 n2 l2) :
    Calls Try.prog 21 #[.slice A1 n1 c1, .slice A2 n2 c2] w (PQ w (pairs (l1.map s9) (l2.map s9))) := by
  obtain ⟨r1, hr1⟩ : ∃ r, l1.map cv = r := ⟨_, rfl⟩
  obtain ⟨r2, hr2⟩ : ∃ r, l2.map cv = r := ⟨_, rfl⟩
  have hPP : pairs (r1.map sp) (r2.map sp) = pairs (l1.map s9) (l2.map s9) := by rw [← hr1, ← hr2, sp_cv, sp_cv]
  have hPl : (pairs (l1.map s9) (l2.map s9)).length ≤ 8000000 := by rw [pairs_len, List.length_map, List.length_map]; omega
  generalize pairs (l1.map s9) (l2.map s9) = P at *
  have H1 := Lib.hid (Mw.in_c l1 h1 A1 n1 c1 hn1 hc1 w hC1 r1 hr1)
  have H2 : Hid (∀ W, Below w.heap.size w W → _) := Lib.hid (fun W hb => Mw.in_c l2 h2 A2 n2 c2 hn2 hc2 W (Kd.C_below hC2 hb) r2 hr2)
  have H3 : Hid (∀ W B1 m1 d1 B2 m2 d2, r1.length = m1 → r2.length = m2 → Kd.C k63 W B1 m1 r1 → Kd.C k63 W B2 m2 r2 → _) := Lib.hid (fun W B1 m1 d1 B2 m2 d2 q1 q2 k1 k2 => c36s r1 r2 B1 d1 B2 d2 W m1 m2 q1 q2 k1 k2 (by rw [← q1, ← hr1, List.length_map]; exact h1) (by rw [← q2, ← hr2, List.length_map]; exact h2) P hPP)
  have HL : Hid (∀ L : List S63, L.map sp = P.map (·.1) → L.length ≤ 8000000 ∧ L.map cu = P.map q9) := Lib.hid (fun L hL => by
    refine ⟨?_, ?_⟩
    · have := congrArg List.length hL
      simp only [List.length_map] at this
      omega
    · rw [filter_q9, ← hL, List.map_map]; rfl)
  clear h1 h2 hC1 hC2 hr1 hr2 hc1 hc2 hn1 hn2 hPP hPl
  go_enter Try.func21, Try.ntmps21
  go_wp2_with (first
    | (go_at_call 28; refine H1.out.mono ?_; rintro e W1 ⟨B1, m1, d1, rfl, q1, q2, k1, b1⟩; have K1 := Lib.hid k1; have HB := Lib.hid b1; have Q1 := Lib.hid q1; clear H1 k1 b1 q1 q2)
    | (go_at_call 28; refine (H2.out _ HB.out).mono ?_; rintro e W2 ⟨B2, m2, d2, rfl, q1, q2, k2, b2⟩; have K2 := Lib.hid (Kd.C_below K1.out b2); have K3 := Lib.hid k2; have HB2 := Lib.hid (HB.out.trans (b2.mono HB.out.size)); have Q3 := Lib.hid q1; clear H2 K1 HB k2 b2 q1 q2)
    | (go_at_call 36; refine (H3.out _ _ _ _ _ _ _ Q1.out Q3.out K2.out K3.out).mono ?_; rintro e W3 ⟨A, n, c, Y, c', L, rfl, q1, q2, k3, q3, k4, hL, b3⟩; have HB3 := Lib.hid (HB2.out.trans (b3.mono HB2.out.size)); have K4 := Lib.hid k3; have K5 := Lib.hid k4; have Q5 := Lib.hid q1; have Q6 := Lib.hid q2; have Q7 := Lib.hid hL; have Q8 := Lib.hid q3; clear b3 k3 k4 q1 q2 q3 hL)
    | (go_at_call 29; refine (Mw.out_c L (by have := (HL.out L Q7.out).1; omega) _ _ _ Q5.out Q6.out _ K4.out).mono ?_; rintro e W4 ⟨A', n', d', rfl, q1, q2, k3, b4⟩; have HB4 := Lib.hid (HB3.out.trans (b4.mono HB3.out.size)); have K6 := Lib.hid k3; have K7 := Lib.hid (Kd.C_below K5.out b4); have Q9 := Lib.hid q1; clear b4 k3 q1 q2))
  have hn : n' = n := by rw [← Q9.out, List.length_map]; exact Q5.out
  subst hn
  have k6 := K6.out
  rw [(HL.out L Q7.out).2] at k6
  exact bodyPost_ret (v := .tuple #[.slice A' n' d', .slice Y n' c']) (by simp [results, Try.results21, go_sem]) rfl ⟨A', n', d', Y, c', rfl, Q8.out, k6, K7.out, HB4.out⟩
theorem at_I {w : World} {A : Option Addr} {n : Nat} {xs : List Int} (h : Kd.C kI w A n xs) (i : Nat) (hx : i < xs.length) (h1 : i < n) : ∃ ad, A = some ad ∧ w.cell? (ad.add i) = some (.int .i64 xs[i]) := by
  obtain ⟨ad, c, e, _, hK, hc0⟩ := Kd.C_get h 0 (i : Int) (by omega) (by omega)
  refine ⟨ad, e, ?_⟩
  have hc : c = [.int .i64 (xs.getD (i : Int).toNat 0)] := hK
  subst hc
  have := hc0 0 _ rfl
  rw [Int.toNat_natCast, List.getD, List.getElem?_eq_getElem hx] at this
  simpa [kI, Kd.int, Kd.scalar] using this
/-- two rows of spans that are gathered, in blocks that differ. -/
structure Ys (w5 : World) (v : Value) (a1 : List S39) (u : Value) (a2 : List S39) (W : World) : Prop where
  r1 : Kd.R k39 39 W w5.heap.size (fun _ => True) v a1
  r2 : Kd.R k39 39 W w5.heap.size (fun _ => True) u a2
  ne : ∀ k, v.ownBlock = some k → some k ≠ u.ownBlock
  below : Below w5.heap.size w5 W
theorem Ys.start (w : World) : Ys w (.slice none 0 0) [] (.slice none 0 0) [] w := ⟨Kd.R_nil _ _ _ _ _, Kd.R_nil _ _ _ _ _, (fun k h => by cases h), Below.refl _ _⟩
section
variable {w5 W W1 W2 : World} {v v1 u u1 : Value} {a1 a2 b1 : List S39} {f : Nat} {C : Array Value} {t : TypeId}
theorem Ys.call (S : Ys w5 v a1 u a2 W) (hb : Below W.heap.size W W1) : Ys w5 v a1 u a2 W1 := ⟨Kd.R_below S.r1 hb, Kd.R_below S.r2 hb, S.ne, S.below.trans (hb.mono S.below.size)⟩
theorem R_row {base : Nat} {a : List S39} (h : Kd.R k39 39 W base (fun _ => True) v a) (hne : some f ≠ v.ownBlock) (X : Array Value) : Kd.R k39 39 (W.setRow f X) base (fun _ => True) v a :=
  Kd.R_mono (Kd.R_kept (Kd.R_far1 h rfl hne) (S := fun k => k = f) ⟨by simp, fun i _ hi => setRow_other W f i X hi⟩ (fun _ hk => hk.2)) (fun _ _ => trivial)
theorem Ys.fresh (S : Ys w5 v a1 u a2 W) (hb : Below W.heap.size W W2) (ef : f = W.heap.size) (kf : W2.heap[f]? = some (.cells C t (0, 0))) (X : Array Value) : Ys w5 v a1 u a2 (W2.setRow f X) := by
  have T := S.call hb
  refine ⟨R_row T.r1 (fun e => ?_) X, R_row T.r2 (fun e => ?_) X, S.ne, below_setRow T.below (by rw [ef]; exact S.below.size) X⟩
  · have := Kd.R_lt S.r1 f e.symm; omega
  · have := Kd.R_lt S.r2 f e.symm; omega
theorem Ys.grow1 (S : Ys w5 v a1 u a2 W) (hg : W.grownBy W1 v.ownBlock) (hb : Below w5.heap.size w5 W1) (hr : Kd.R k39 39 W1 w5.heap.size (fun _ => True) v1 b1) (hat : v1.ownBlock = v.ownBlock ∨ ∃ b, v1.ownBlock = some b ∧ W.heap.size ≤ b) : Ys w5 v1 b1 u a2 W1 := by
  refine ⟨hr, Kd.R_grown2 S.r2 rfl hg S.ne, fun k hk => ?_, hb⟩
  rcases hat with hat | ⟨b, hb', hle⟩
  · exact S.ne k (hat ▸ hk)
  · intro e
    have := Kd.R_lt S.r2 k e.symm
    rw [hk] at hb'
    injection hb' with hb'
    omega
theorem Ys.swap (S : Ys w5 v a1 u a2 W) : Ys w5 u a2 v a1 W := ⟨S.r2, S.r1, fun k hk e => S.ne k e.symm hk.symm, S.below⟩
theorem Ys.grow2 (S : Ys w5 v a1 u a2 W) (hg : W.grownBy W1 u.ownBlock) (hb : Below w5.heap.size w5 W1) (hr : Kd.R k39 39 W1 w5.heap.size (fun _ => True) u1 b1) (hat : u1.ownBlock = u.ownBlock ∨ ∃ b, u1.ownBlock = some b ∧ W.heap.size ≤ b) : Ys w5 v a1 u1 b1 W1 := (S.swap.grow1 hg hb hr hat).swap
end
theorem c5_l1 (A1 : Option Addr) (n1 c1 : Nat) (A2 : Option Addr) (n2 c2 : Nat) (w : World) (h1 : decide ((n1 : Int) > 2147483647) = true) :
    Calls Try.prog 5 #[.slice A1 n1 c1, .slice A2 n2 c2] w fun e w' => e = .returned (.bool true) ∧ Below w.heap.size w w' := by
  go_enter Try.func5, Try.ntmps5
  go_wp2
  exact bodyPost_ret (v := .bool true) (by simp [results, Try.results5, go_sem]) rfl ⟨rfl, Below.refl _ _⟩
theorem c5_l2 (A1 : Option Addr) (n1 c1 : Nat) (A2 : Option Addr) (n2 c2 : Nat) (w : World) (h1 : decide ((n1 : Int) > 2147483647) = false) (h2 : decide ((n2 : Int) > 2147483647) = true) :
    Calls Try.prog 5 #[.slice A1 n1 c1, .slice A2 n2 c2] w fun e w' => e = .returned (.bool true) ∧ Below w.heap.size w w' := by
  go_enter Try.func5, Try.ntmps5
  go_wp2
  exact bodyPost_ret (v := .bool true) (by simp [results, Try.results5, go_sem]) rfl ⟨rfl, Below.refl _ _⟩
set_option maxHeartbeats 8000000 in
theorem c5_1 (A1 : Option Addr) (n1 c1 : Nat) (A2 : Option Addr) (n2 c2 : Nat) (w : World) (h1 : decide ((n1 : Int) > 2147483647) = false) (h2 : decide ((n2 : Int) > 2147483647) = false)
    (P1 : Hid (∀ W, Below w.heap.size w W → Calls Try.prog 13 #[.slice A1 n1 c1] W fun e w' => e = .returned (.bool false) ∧ Below w.heap.size w w'))
    (He : Hid (∀ W, Below w.heap.size w W → Calls Try.prog 14 #[] W fun e w' => e = .returned (.bool true) ∧ Below w.heap.size w w')) :
    Calls Try.prog 5 #[.slice A1 n1 c1, .slice A2 n2 c2] w fun e w' => e = .returned (.bool true) ∧ Below w.heap.size w w' := by
  have HB0 := Lib.hid (Below.refl w.heap.size w)
  go_enter Try.func5, Try.ntmps5
  go_wp2_with (first
    | (go_at_call 13; refine (P1.out _ HB0.out).mono ?_; rintro e W1 ⟨rfl, b⟩; have HB1 := Lib.hid b; clear b HB0)
    | (go_at_call 14; refine (He.out _ HB1.out).mono ?_; rintro e W2 ⟨rfl, b⟩; have HB2 := Lib.hid b; clear b HB1))
  exact bodyPost_ret (v := .bool true) (by simp [results, Try.results5, go_sem]) rfl ⟨rfl, HB2.out⟩
set_option maxHeartbeats 8000000 in
theorem c5_2 (A1 : Option Addr) (n1 c1 : Nat) (A2 : Option Addr) (n2 c2 : Nat) (w : World) (h1 : decide ((n1 : Int) > 2147483647) = false) (h2 : decide ((n2 : Int) > 2147483647) = false)
    (P1 : Hid (∀ W, Below w.heap.size w W → Calls Try.prog 13 #[.slice A1 n1 c1] W fun e w' => e = .returned (.bool true) ∧ Below w.heap.size w w'))
    (P2 : Hid (∀ W, Below w.heap.size w W → Calls Try.prog 13 #[.slice A2 n2 c2] W fun e w' => e = .returned (.bool false) ∧ Below w.heap.size w w'))
    (He : Hid (∀ W, Below w.heap.size w W → Calls Try.prog 14 #[] W fun e w' => e = .returned (.bool true) ∧ Below w.heap.size w w')) :
    Calls Try.prog 5 #[.slice A1 n1 c1, .slice A2 n2 c2] w fun e w' => e = .returned (.bool true) ∧ Below w.heap.size w w' := by
  have HB0 := Lib.hid (Below.refl w.heap.size w)
  go_enter Try.func5, Try.ntmps5
  go_wp2_with (first
    | (go_at_call 13; refine (P1.out _ HB0.out).mono ?_; rintro e W1 ⟨rfl, b⟩; have HB1 := Lib.hid b; clear b HB0)
    | (go_at_call 13; refine (P2.out _ HB1.out).mono ?_; rintro e W2 ⟨rfl, b⟩; have HB2 := Lib.hid b; clear b HB1)
    | (go_at_call 14; refine (He.out _ HB2.out).mono ?_; rintro e W3 ⟨rfl, b⟩; have HB3 := Lib.hid b; clear b HB2))
  exact bodyPost_ret (v := .bool true) (by simp [results, Try.results5, go_sem]) rfl ⟨rfl, HB3.out⟩
set_option maxHeartbeats 8000000 in
theorem c5_all (l1 : List S39) (l2 : List S39) (A1 : Option Addr) (n1 c1 : Nat) (A2 : Option Addr) (n2 c2 : Nat) (w : World) (h1 : decide ((n1 : Int) > 2147483647) = false) (h2 : decide ((n2 : Int) > 2147483647) = false) (hn1 : l1.length = n1) (hc1 : n1 ≤ c1) (hC1 : Kd.C k39 w A1 n1 l1) (q1 : Pn 1000000 l1) (hn2 : l2.length = n2) (hc2 : n2 ≤ c2) (hC2 : Kd.C k39 w A2 n2 l2) (q2 : Pn 1000000 l2)
    (P1 : Hid (∀ W, Below w.heap.size w W → Calls Try.prog 13 #[.slice A1 n1 c1] W fun e w' => e = .returned (.bool true) ∧ Below w.heap.size w w'))
    (P2 : Hid (∀ W, Below w.heap.size w W → Calls Try.prog 13 #[.slice A2 n2 c2] W fun e w' => e = .returned (.bool true) ∧ Below w.heap.size w w'))
    (He : Hid (∀ W, Below w.heap.size w W → Calls Try.prog 14 #[] W fun e w' => e = .returned (.bool true) ∧ Below w.heap.size w w')) :
    Calls Try.prog 5 #[.slice A1 n1 c1, .slice A2 n2 c2] w fun e w' => e = .returned (.bool true) ∧ Below w.heap.size w w' := by
  have HB0 := Lib.hid (Below.refl w.heap.size w)
  have K1 : Hid (∀ W, Below w.heap.size w W → Kd.C k39 W A1 n1 l1) := Lib.hid (fun W hb => Kd.C_below hC1 hb)
  have K2 : Hid (∀ W, Below w.heap.size w W → Kd.C k39 W A2 n2 l2) := Lib.hid (fun W hb => Kd.C_below hC2 hb)
  have H21 : Hid (∀ W, Below w.heap.size w W → Calls Try.prog 21 #[.slice A1 n1 c1, .slice A2 n2 c2] W (PQ W (pairs (l1.map s9) (l2.map s9)))) := Lib.hid (fun W hb => c21 l1 l2 (by have := q1.len; omega) (by have := q2.len; omega) A1 n1 c1 A2 n2 c2 hn1 hn2 hc1 hc2 W (K1.out W hb) (K2.out W hb))
  have hP0 : ((pairs (l1.map s9) (l2.map s9)).filter (fun p => p.2 == 0)).map q9 = l1 := by rw [filter_q9, pairs_0, q9_s9]
  have hP1 : ((pairs (l1.map s9) (l2.map s9)).filter (fun p => p.2 == 1)).map q9 = l2 := by rw [filter_q9, pairs_1, q9_s9]
  have hPl : (pairs (l1.map s9) (l2.map s9)).length ≤ 2000000 := by rw [pairs_len, List.length_map, List.length_map]; have := q1.len; have := q2.len; omega
  have hPk := pairs_le (l1.map s9) (l2.map s9)
  generalize pairs (l1.map s9) (l2.map s9) = P at *
  have HP := Lib.hid (And.intro hP0 (And.intro hP1 (And.intro hPl hPk)))
  have HN := Lib.hid (And.intro hn1 (And.intro hn2 (And.intro hc1 (And.intro hc2 (And.intro q1.len q2.len)))))
  clear hn1 hc1 hC1 q1 hn2 hc2 hC2 q2 hP0 hP1 hPl hPk
  have hu39 := Try.underlying39
  go_enter Try.func5, Try.ntmps5
  go_wp2_with (first
    | (go_at_call 13; refine (P1.out _ HB0.out).mono ?_; rintro e W1 ⟨rfl, b⟩; have HB1 := Lib.hid b; clear b HB0)
    | (go_at_call 13; refine (P2.out _ HB1.out).mono ?_; rintro e W2 ⟨rfl, b⟩; have HB2 := Lib.hid b; clear b HB1)
    | (go_at_call 21; refine (H21.out _ HB2.out).mono ?_; rintro e W3 ⟨X, m, d, Y, d2, rfl, z1, z2, z3, b⟩; have HB3 := Lib.hid (HB2.out.trans (b.mono HB2.out.size)); have Z1 := Lib.hid z1; have Z2 := Lib.hid z2; have Z3 := Lib.hid z3; clear b z1 z2 z3 HB2))
  go_loopw [7, 8, 41] (fun v u x41 wr => ∃ i : Nat, x41 = .int .i64 i ∧ i ≤ m ∧ Ys W3 v (((P.take i).filter (fun p => p.2 == 0)).map q9) u (((P.take i).filter (fun p => p.2 == 1)).map q9) wr) (fun _ _ x41 _ => m - (intOf x41).toNat)
  case atStart => exact ⟨0, rfl, Nat.zero_le _, Ys.start W3⟩
  case round =>
    obtain ⟨i, rfl, hi, S⟩ := hrel
    obtain ⟨_, _, hPl, hPk⟩ := HP.out
    have hm := Z1.out
    by_cases hin : i < m
    · have hiP : i < P.length := by omega
      obtain ⟨q, hq⟩ : ∃ q, P[i] = q := ⟨_, rfl⟩
      have hk : q.2 ≤ 1 := hPk q (by rw [← hq]; exact List.getElem_mem hiP)
      have hL1 : (((P.take i).filter (fun p => p.2 == 0)).map q9).length ≤ 2000000 := by
        rw [List.length_map]
        have := List.length_filter_le (fun p : Iv.Sp × Nat => p.2 == 0) (P.take i)
        rw [List.length_take] at this; omega
      have hL2 : (((P.take i).filter (fun p => p.2 == 1)).map q9).length ≤ 2000000 := by
        rw [List.length_map]
        have := List.length_filter_le (fun p : Iv.Sp × Nat => p.2 == 1) (P.take i)
        rw [List.length_take] at this; omega
      have HT0 : Hid (((P.take (i + 1)).filter (fun p => p.2 == 0)).map q9 = ((P.take i).filter (fun p => p.2 == 0)).map q9 ++ (if q.2 = 0 then [q9 q] else [])) := Lib.hid (by
        rw [List.take_succ_eq_append_getElem hiP, hq, List.filter_append, List.map_append]
        congr 1
        by_cases h : q.2 = 0 <;> simp [List.filter_cons, h])
      have HT1 : Hid (((P.take (i + 1)).filter (fun p => p.2 == 1)).map q9 = ((P.take i).filter (fun p => p.2 == 1)).map q9 ++ (if q.2 = 1 then [q9 q] else [])) := Lib.hid (by
        rw [List.take_succ_eq_append_getElem hiP, hq, List.filter_append, List.map_append]
        congr 1
        by_cases h : q.2 = 1 <;> simp [List.filter_cons, h])
      generalize ((P.take i).filter (fun p => p.2 == 0)).map q9 = a1 at *
      generalize ((P.take i).filter (fun p => p.2 == 1)).map q9 = a2 at *
      obtain ⟨ad, e, x0, x1⟩ := at_T39 (Kd.C_below Z2.out S.below) i (by omega) (by omega)
      cases e
      have e39 : rd_T39 (P.map q9) (i : Int) = q9 q := by rw [rd9 _ i (by rw [List.length_map]; exact hiP), List.getElem_map, hq]
      rw [e39, Int.toNat_natCast] at x0 x1
      have t0 : ((i : Int) < (m : Int)) = True := eq_true (by omega)
      have t1 : (i < m) = True := eq_true hin
      have t2 : ((0 : Int) ≤ (i : Int)) = True := eq_true (by omega)
      have s1 : wrap64 ((i : Int) + 1) = (i : Int) + 1 := w64' _ (by omega) (by omega)
      have HK : Hid (i + 1 ≤ m) := Lib.hid hin
      obtain ⟨ad2, e2, zz⟩ := at_I (Kd.C_below Z3.out S.below) i (by rw [List.length_map]; exact hiP) (by omega)
      clear zz
      cases e2
      have HZ : Hid (∀ W, Below W3.heap.size W3 W → W.cell? (ad2.add i) = some (.int .i64 (q.2 : Int))) := Lib.hid (fun W hb => by
        obtain ⟨ad3, e3, z0⟩ := at_I (Kd.C_below Z3.out hb) i (by rw [List.length_map]; exact hiP) (by omega)
        cases e3
        have z1 : (P.map qi)[i]'(by rw [List.length_map]; exact hiP) = (q.2 : Int) := by rw [List.getElem_map, hq]; rfl
        rw [z1] at z0
        exact z0)
      have HL1 : Hid ((a1.length + 1) * 16 ≤ 140737488355328) := Lib.hid (by omega)
      have HL2 : Hid ((a2.length + 1) * 16 ≤ 140737488355328) := Lib.hid (by omega)
      have HI := Lib.hid hk
      clear hk hq hiP hL1 hL2 e39 hPl hPk hi hin hm
      go_upto_region 12 with (first
        | ((with_reducible refine gate_dst (N := 10) rfl ?_); refine box_event ?hg (N := 10) ?hd (cs := #[.int .i64 0, .int .i64 0]) (t := 39) ?hr ?_; (case hd => rfl); (case hg => rfl); (case hr => first | (go_simp; done) | (go_simp; rfl)); intro f ef W4 kf hb2; have T := S.fresh hb2 ef kf #[.int .i64 (q9 q).f0, .int .i64 (q9 q).f1]; clear ef hb2)
        | (refine wpList_store_row rfl 39 (.tmp 10) _ rfl f #[.int .i64 (q9 q).f0, .int .i64 (q9 q).f1] rfl rfl 39 _ kf (by kernel_rfl) rfl (by simp [Value.oneCell']) ?_; have k3 := setRow_heap W4 f _ #[.int .i64 (q9 q).f0, .int .i64 (q9 q).f1] _ _ kf; clear kf))
      generalize W4.setRow f _ = W5 at *
      have y0 : W5.cell? ⟨f, 0, none⟩ = some (.int .i64 (q9 q).f0) := (blk_cell k3 0).trans rfl
      have y1 : W5.cell? ⟨f, 1, none⟩ = some (.int .i64 (q9 q).f1) := (blk_cell k3 1).trans rfl
      have z0 := HZ.out W5 T.below
      clear x0 x1 S k3
      have hk := HI.out
      rcases (by omega : q.2 = 0 ∨ q.2 = 1) with h0 | h0
      · have z1 : W5.cell? (ad2.add i) = some (.int .i64 0) := by rw [z0, h0]; rfl
        have HQ := Lib.hid h0
        clear z0 hk h0
        go_wp2_with (first
          | ((with_reducible refine gate_builtin (b := .append) (xs := #[.tmp 52, .tmp 54]) rfl ?_); at_builtin; refine Kd.R_append k39 (w0 := W3) W3.heap.size rfl (.tmp 52) (.tmp 54) 22 39 (.agg #[(.int .i64 0), (.int .i64 0)]) 16 rfl Try.underlying22 info39 rfl (by decide) (by omega) _ a1 (q9 q) [.int .i64 (q9 q).f0, .int .i64 (q9 q).f1] (fun _ => True) (fun _ => False) rfl rfl ?aP (fun _ hk => hk.elim) (fun _ _ => trivial) T.r1 T.below T.below.size HL1.out ?_; (case aP => exact k39_mkM _ _ _ (q9 q)); intro v1 W6 ho hb hgr hat; have T2 := T.grow1 hgr hb ho hat; clear hgr hb ho hat T))
        rw [s1]
        clear s1 t0 t1
        refine ⟨⟨i + 1, by rw [Int.natCast_add]; rfl, HK.out, ?_⟩, ?_⟩
        · rw [HT0.out, HT1.out, if_pos HQ.out, if_neg (by rw [HQ.out]; decide), List.append_nil]; exact T2
        · have h1 := HK.out
          show m - ((i : Int) + 1).toNat < m - ((i : Int)).toNat
          omega
      · have z1 : W5.cell? (ad2.add i) = some (.int .i64 1) := by rw [z0, h0]; rfl
        have HQ := Lib.hid h0
        clear z0 hk h0
        go_wp2_with (first
          | ((with_reducible refine gate_builtin (b := .append) (xs := #[.tmp 58, .tmp 60]) rfl ?_); at_builtin; refine Kd.R_append k39 (w0 := W3) W3.heap.size rfl (.tmp 58) (.tmp 60) 22 39 (.agg #[(.int .i64 0), (.int .i64 0)]) 16 rfl Try.underlying22 info39 rfl (by decide) (by omega) _ a2 (q9 q) [.int .i64 (q9 q).f0, .int .i64 (q9 q).f1] (fun _ => True) (fun _ => False) rfl rfl ?aP (fun _ hk => hk.elim) (fun _ _ => trivial) T.r2 T.below T.below.size HL2.out ?_; (case aP => exact k39_mkM _ _ _ (q9 q)); intro v1 W6 ho hb hgr hat; have T2 := T.grow2 hgr hb ho hat; clear hgr hb ho hat T))
        rw [s1]
        clear s1 t0 t1
        refine ⟨⟨i + 1, by rw [Int.natCast_add]; rfl, HK.out, ?_⟩, ?_⟩
        · rw [HT0.out, HT1.out, if_neg (by rw [HQ.out]; decide), if_pos HQ.out, List.append_nil]; exact T2
        · have h1 := HK.out
          show m - ((i : Int) + 1).toNat < m - ((i : Int)).toNat
          omega
    · have t1 : (i < m) = False := eq_false hin
      have t0 : ((i : Int) < (m : Int)) = False := eq_false (by omega)
      rw [List.take_of_length_le (by omega), HP.out.1, HP.out.2.1] at S
      clear hin hi hm hPl hPk
      obtain ⟨B1, e1, hv1⟩ := Kd.R_slice S.r1
      obtain ⟨B2, e2, hv2⟩ := Kd.R_slice S.r2
      subst hv1 hv2
      obtain ⟨_, le1, C1⟩ := Kd.R_reads' S.r1
      obtain ⟨_, le2, C2⟩ := Kd.R_reads' S.r2
      obtain ⟨hn1, hn2, hc1, hc2, hl1, hl2⟩ := HN.out
      have HBr := Lib.hid (HB3.out.trans (S.below.mono HB3.out.size))
      have HS1 : Hid (Calls Try.prog 22 #[.slice B1 l1.length e1, .slice A1 n1 c1] wr fun e w' => e = .returned (.bool true) ∧ Below wr.heap.size wr w') := Lib.hid (same_c wr l1 l1 B1 _ e1 A1 n1 c1 rfl hn1 le1 hc1 (by omega) wr (Below.refl _ _) C1 (K1.out _ HBr.out) _ rfl rfl)
      have HS2 : Hid (∀ W, Below wr.heap.size wr W → Calls Try.prog 22 #[.slice B2 l2.length e2, .slice A2 n2 c2] W fun e w' => e = .returned (.bool true) ∧ Below W.heap.size W w') := Lib.hid (fun W hb => same_c W l2 l2 B2 _ e2 A2 n2 c2 rfl hn2 le2 hc2 (by omega) W (Below.refl _ _) (Kd.C_below C2 hb) (K2.out _ (HBr.out.trans (hb.mono HBr.out.size))) _ rfl rfl)
      clear hn1 hn2 hc1 hc2 hl1 hl2 C1 C2 le1 le2 S
      go_wp2_with (first
        | (go_at_call 22; refine HS1.out.mono ?_; rintro e W6 ⟨rfl, b⟩; have HB6 := Lib.hid b; clear b HS1)
        | (go_at_call 22; refine (HS2.out _ HB6.out).mono ?_; rintro e W7 ⟨rfl, b⟩; have HB7 := Lib.hid (HBr.out.trans ((HB6.out.trans (b.mono HB6.out.size)).mono HBr.out.size)); clear b)
        | (go_at_call 14; refine (He.out _ HB7.out).mono ?_; rintro e W8 ⟨rfl, b⟩; have HB8 := Lib.hid b; clear b))
      exact bodyPost_ret (v := .bool true) (by simp [results, Try.results5, go_sem]) rfl ⟨rfl, HB8.out⟩
theorem c5 (l1 : List S39) (l2 : List S39) (A1 : Option Addr) (n1 c1 : Nat) (A2 : Option Addr) (n2 c2 : Nat) (w : World) (hn1 : l1.length = n1) (hc1 : n1 ≤ c1) (hC1 : Kd.C k39 w A1 n1 l1) (hn2 : l2.length = n2) (hc2 : n2 ≤ c2) (hC2 : Kd.C k39 w A2 n2 l2) :
    Calls Try.prog 5 #[.slice A1 n1 c1, .slice A2 n2 c2] w fun e w' => e = .returned (.bool true) ∧ Below w.heap.size w w' := by
  by_cases h1 : (n1 : Int) > 2147483647
  · exact c5_l1 A1 n1 c1 A2 n2 c2 w (decide_eq_true h1)
  have g1 : decide ((n1 : Int) > 2147483647) = false := decide_eq_false h1
  by_cases h2 : (n2 : Int) > 2147483647
  · exact c5_l2 A1 n1 c1 A2 n2 c2 w g1 (decide_eq_true h2)
  have g2 : decide ((n2 : Int) > 2147483647) = false := decide_eq_false h2
  obtain ⟨p1, e1, f1⟩ := proper_f l1 (by omega)
  obtain ⟨p2, e2, f2⟩ := proper_f l2 (by omega)
  subst hn1 hn2
  have Ha1 : ∀ v, p1 = v → Hid (∀ W, Below w.heap.size w W → Calls Try.prog 13 #[.slice A1 l1.length c1] W fun e w' => e = .returned (.bool v) ∧ Below w.heap.size w w') := fun v hv => Lib.hid (fun W hb => (spec_Proper.calls _ A1 c1 l1 v W (Kd.C_below hC1 hb) hc1 (hv ▸ e1)).mono (fun e w' q => ⟨q.1, hb.trans (q.2.mono hb.size)⟩))
  have Ha2 : ∀ v, p2 = v → Hid (∀ W, Below w.heap.size w W → Calls Try.prog 13 #[.slice A2 l2.length c2] W fun e w' => e = .returned (.bool v) ∧ Below w.heap.size w w') := fun v hv => Lib.hid (fun W hb => (spec_Proper.calls _ A2 c2 l2 v W (Kd.C_below hC2 hb) hc2 (hv ▸ e2)).mono (fun e w' q => ⟨q.1, hb.trans (q.2.mono hb.size)⟩))
  have He : Hid (∀ W, Below w.heap.size w W → Calls Try.prog 14 #[] W fun e w' => e = .returned (.bool true) ∧ Below w.heap.size w w') := Lib.hid (fun W hb => (laws_ivWorks.calls true W ivWorks_f).mono (fun e w' q => ⟨q.1, hb.trans (q.2.mono hb.size)⟩))
  cases k1 : p1 with
  | false => exact c5_1 A1 _ c1 A2 _ c2 w g1 g2 (Ha1 _ k1) He
  | true =>
  cases k2 : p2 with
  | false => exact c5_2 A1 _ c1 A2 _ c2 w g1 g2 (Ha1 _ k1) (Ha2 _ k2) He
  | true =>
  obtain ⟨a1, b1, m1⟩ := f1 k1
  obtain ⟨a2, b2, m2⟩ := f2 k2
  exact c5_all l1 l2 A1 _ c1 A2 _ c2 w g1 g2 rfl hc1 hC1 (proper_n l1 a1 b1 m1) rfl hc2 hC2 (proper_n l2 a2 b2 m2) (Ha1 _ k1) (Ha2 _ k2) He
theorem c5r (l1 : List S39) (A1 : Option Addr) (n1 c1 : Nat) (l2 : List S39) (A2 : Option Addr) (n2 c2 : Nat) (w : World) (hn1 : l1.length = n1) (hc1 : n1 ≤ c1) (hC1 : Kd.C k39 w A1 n1 l1) (hn2 : l2.length = n2) (hc2 : n2 ≤ c2) (hC2 : Kd.C k39 w A2 n2 l2) :
    Calls Try.prog 5 #[.slice A1 n1 c1, .slice A2 n2 c2] w fun e w' => e = .returned (.bool true) ∧ Below w.heap.size w w' := c5 l1 l2 A1 n1 c1 A2 n2 c2 w hn1 hc1 hC1 hn2 hc2 hC2
end Go.Proofs.Ytmfffeoodlmnbaa.C5
