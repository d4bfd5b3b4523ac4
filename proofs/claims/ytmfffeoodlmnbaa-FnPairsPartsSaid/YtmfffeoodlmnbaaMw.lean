/- Intervals.Merge whole; impl.Merge: what they return. -/
import Derived.Test.YtmfffeoodlmnbaaMr
import Derived.Test.YtmfffeoodlmnbaaPj
namespace Go.Proofs.Ytmfffeoodlmnbaa.Mw
set_option linter.unusedSimpArgs false
set_option linter.unusedVariables false
open Go.RowKit Go.Proofs.YtmfffeoodlmnbaaW.PrintWords Go.Proofs.YtmfffeoodlmnbaaW.PrintLast Go.Proofs.YtmfffeoodlmnbaaW.PrintMore Go.Proofs.Ytmfffeoodlmnbaa.Kit Go.Proofs.Ytmfffeoodlmnbaa.Sp Go.Proofs.Ytmfffeoodlmnbaa.Se Go.Proofs.Ytmfffeoodlmnbaa.In Go.Proofs.Ytmfffeoodlmnbaa.Iv Go.Proofs.Ytmfffeoodlmnbaa.Vp Go.Proofs.Ytmfffeoodlmnbaa.Ov Go.Proofs.Ytmfffeoodlmnbaa.Mi Go.Proofs.Ytmfffeoodlmnbaa.Mr Go.Proofs.Ytmfffeoodlmnbaa.Pj
theorem fold_len (l : List Iv.Sp) : ∀ c, (Iv.fold c l).length ≤ l.length + 1 := by
  induction l with
  | nil => intro c; simp [Iv.fold]
  | cons s l ih =>
    intro c
    by_cases h : touch c s = true
    · rw [fold_yes c s l h]; have := ih (join c s); simp only [List.length_cons]; omega
    · rw [fold_no c s l (by simpa using h)]; have := ih s; simp only [List.length_cons]; omega
theorem fold_ok (l : List Iv.Sp) : ∀ c, okB c → (∀ s ∈ l, okB s) → ∀ s ∈ Iv.fold c l, okB s := by
  induction l with
  | nil => intro c hc _ s hs; simp [Iv.fold] at hs; subst hs; exact hc
  | cons t l ih =>
    intro c hc hl s hs
    have ht := hl t (.head _)
    have hl' := fun s hs => hl s (List.mem_cons_of_mem t hs)
    by_cases h : touch c t = true
    · rw [fold_yes c t l h] at hs; exact ih _ (by rw [join_mn]; exact hc.join ht) hl' s hs
    · rw [fold_no c t l (by simpa using h)] at hs
      rcases List.mem_cons.1 hs with rfl | hs
      · exact hc
      · exact ih t ht hl' s hs
theorem pairs_len (a b : List Iv.Sp) : (pairs a b).length = a.length + b.length := by
  induction a, b using pairs.induct with
  | case1 b => simp [pairs]
  | case2 s a => simp [pairs]
  | case3 s a t b h ih => simp only [pairs, if_pos h, List.length_cons] at ih ⊢; omega
  | case4 s a t b h ih => simp only [pairs, if_neg h, List.length_cons] at ih ⊢; omega
theorem mergeL_len (a b : List Iv.Sp) : (mergeL a b).length ≤ a.length + b.length := by
  unfold mergeL
  split
  · omega
  · split
    · omega
    · have h := pairs_len a b
      have e : ((pairs a b).map (·.1)).length = a.length + b.length := by rw [List.length_map]; exact h
      split
      · simp
      · rename_i c l he; rw [he] at e; have := fold_len l c; simp only [List.length_cons] at e; omega
theorem mergeL_ok (a b : List Iv.Sp) (ha : ∀ s ∈ a, okB s) (hb : ∀ s ∈ b, okB s) : ∀ s ∈ mergeL a b, okB s := by
  unfold mergeL
  split
  · exact hb
  · split
    · exact ha
    · have hm := pairs_mem a b
      split
      · intro s hs; cases hs
      · rename_i c l he
        rw [he] at hm
        have hall : ∀ s ∈ c :: l, okB s := fun s hs => ((hm s).1 hs).elim (ha s) (hb s)
        exact fold_ok l c (hall c (.head _)) (fun s hs => hall s (List.mem_cons_of_mem c hs))
theorem c30_e1 (A1 : Option Addr) (c1 : Nat) (A2 : Option Addr) (c2 : Nat) (w : World) (n1 n2 : Nat) (h : n1 = 0) :
    Calls Try.prog 30 #[.slice A1 n1 c1, .slice A2 n2 c2] w fun e w' => e = .returned (.slice A2 n2 c2) ∧ Below w.heap.size w w' := by
  have n1' : ((n1 : Int) == 0) = true := by subst h; rfl
  clear h
  go_enter Try.func30, Try.ntmps30
  go_wp2
  exact bodyPost_ret (v := .slice A2 n2 c2) (by simp [results, Try.results30, go_sem]) rfl ⟨rfl, Below.refl _ _⟩
theorem c30_e2 (A1 : Option Addr) (c1 : Nat) (A2 : Option Addr) (c2 : Nat) (w : World) (n1 n2 : Nat) (h0 : 0 < n1) (h : n2 = 0) :
    Calls Try.prog 30 #[.slice A1 n1 c1, .slice A2 n2 c2] w fun e w' => e = .returned (.slice A1 n1 c1) ∧ Below w.heap.size w w' := by
  have n1' : ((n1 : Int) == 0) = false := by apply beq_false_of_ne; omega
  have n2' : ((n2 : Int) == 0) = true := by subst h; rfl
  clear h h0
  go_enter Try.func30, Try.ntmps30
  go_wp2
  exact bodyPost_ret (v := .slice A1 n1 c1) (by simp [results, Try.results30, go_sem]) rfl ⟨rfl, Below.refl _ _⟩
theorem c30 (l1 l2 : List S63) (A1 : Option Addr) (c1 : Nat) (A2 : Option Addr) (c2 : Nat) (w : World) (n1 n2 : Nat) (hn1 : l1.length = n1) (hn2 : l2.length = n2) (hk1 : n1 ≤ c1) (hk2 : n2 ≤ c2) (hc1 : Kd.C k63 w A1 n1 l1) (hc2 : Kd.C k63 w A2 n2 l2)
    (hl1 : n1 ≤ 4000000) (hl2 : n2 ≤ 4000000) (hb1 : Bd l1) (hb2 : Bd l2) :
    Calls Try.prog 30 #[.slice A1 n1 c1, .slice A2 n2 c2] w fun e w' => ∃ (A : Option Addr) (n c : Nat) (L : List S63), e = .returned (.slice A n c) ∧ L.length = n ∧ n ≤ c ∧ Kd.C k63 w' A n L ∧ L.map sp = mergeL (l1.map sp) (l2.map sp) ∧ Below w.heap.size w w' := by
  by_cases h1 : n1 = 0
  · refine (c30_e1 A1 c1 A2 c2 w n1 n2 h1).mono ?_
    rintro e w' ⟨rfl, hb⟩
    exact ⟨A2, n2, c2, l2, rfl, hn2, hk2, Kd.C_below hc2 hb, by rw [List.length_eq_zero_iff.1 (hn1.trans h1)]; simp [mergeL], hb⟩
  · by_cases h2 : n2 = 0
    · refine (c30_e2 A1 c1 A2 c2 w n1 n2 (by omega) h2).mono ?_
      rintro e w' ⟨rfl, hb⟩
      exact ⟨A1, n1, c1, l1, rfl, hn1, hk1, Kd.C_below hc1 hb, by rw [List.length_eq_zero_iff.1 (hn2.trans h2)]; unfold mergeL; split <;> simp_all, hb⟩
    · refine (c30_loop l1 l2 A1 c1 A2 c2 w n1 n2 hn1 hn2 hc1 hc2 (by omega) (by omega) hl1 hl2 hb1 hb2).mono ?_
      rintro e w' ⟨v, L, rfl, hr, hL, hb⟩
      obtain ⟨A, c, rfl, hle, hC⟩ := Kd.R_reads hr
      exact ⟨A, _, c, L, rfl, rfl, hle, hC, hL, hb⟩
/-- sequences of spans in order, of so many at most. -/
structure Pn (N : Nat) (l : List S39) : Prop where
  gap : Gap (-2305843009213693953) (l.map s9)
  ok : ∀ s ∈ l.map s9, okB s
  len : l.length ≤ N
theorem Pn.bd {N : Nat} {l : List S39} (h : Pn N l) : Bd (l.map cv) := fun q hq => by rw [sp_cv] at hq; exact h.ok q hq
theorem Pn.merge {N M : Nat} {l m r : List S39} (h : Pn N l) (k : Pn M m) (e : r.map s9 = mergeL (l.map s9) (m.map s9)) : Pn (N + M) r :=
  ⟨by rw [e]; exact (mergeL_spec _ _ _ h.gap k.gap).1, by rw [e]; exact mergeL_ok _ _ h.ok k.ok, by
    have := mergeL_len (l.map s9) (m.map s9)
    rw [← e] at this
    simp only [List.length_map] at this
    have := h.len; have := k.len; omega⟩
theorem in_c (l : List S39) (hl : l.length ≤ 4000000) (A : Option Addr) (n c : Nat) (hn : l.length = n) (hc : n ≤ c) (w : World) (hC : Kd.C k39 w A n l) (r : List S63) (hr : l.map cv = r) :
    Calls Try.prog 28 #[.slice A n c] w fun e w' => ∃ (A' : Option Addr) (n' c' : Nat), e = .returned (.slice A' n' c') ∧ r.length = n' ∧ n' ≤ c' ∧ Kd.C k63 w' A' n' r ∧ Below w.heap.size w w' := by
  subst hn
  refine (impl_in.calls (l.length + 1) A c l _ w hC hc (in_f l (by omega))).mono ?_
  rintro e w' ⟨v, rfl, hR, hb⟩
  obtain ⟨A', c', rfl, hle, hC'⟩ := Kd.R_reads hR
  rw [hr] at hC' hle ⊢
  exact ⟨A', _, c', rfl, rfl, hle, hC', hb⟩
theorem out_c (l : List S63) (hl : l.length ≤ 2147483648) (A : Option Addr) (n c : Nat) (hn : l.length = n) (hc : n ≤ c) (w : World) (hC : Kd.C k63 w A n l) :
    Calls Try.prog 29 #[.slice A n c] w fun e w' => ∃ (A' : Option Addr) (n' c' : Nat), e = .returned (.slice A' n' c') ∧ (l.map cu).length = n' ∧ n' ≤ c' ∧ Kd.C k39 w' A' n' (l.map cu) ∧ Below w.heap.size w w' := by
  subst hn
  refine (impl_out.calls (l.length + 1) A c l _ w hC hc (out_f l (by omega))).mono ?_
  rintro e w' ⟨v, rfl, hR, hb⟩
  obtain ⟨A', c', rfl, hle, hC'⟩ := Kd.R_reads hR
  exact ⟨A', _, c', rfl, rfl, hle, hC', hb⟩
set_option maxHeartbeats 8000000 in
theorem c16 (l1 l2 : List S39) (h1 : Pn 4000000 l1) (h2 : Pn 4000000 l2) (A1 : Option Addr) (n1 c1 : Nat) (A2 : Option Addr) (n2 c2 : Nat) (hn1 : l1.length = n1) (hn2 : l2.length = n2) (hc1 : n1 ≤ c1) (hc2 : n2 ≤ c2) (w : World) (hC1 : Kd.C k39 w A1 n1 l1) (hC2 : Kd.C k39 w A2 n2 l2) :
    Calls Try.prog 16 #[.slice A1 n1 c1, .slice A2 n2 c2] w fun e w' => ∃ (A : Option Addr) (n c : Nat) (L : List S39), e = .returned (.slice A n c) ∧ L.length = n ∧ n ≤ c ∧ Kd.C k39 w' A n L ∧ L.map s9 = mergeL (l1.map s9) (l2.map s9) ∧ Below w.heap.size w w' := by
  obtain ⟨r1, hr1⟩ : ∃ r, l1.map cv = r := ⟨_, rfl⟩
  obtain ⟨r2, hr2⟩ : ∃ r, l2.map cv = r := ⟨_, rfl⟩
  have H1 := Lib.hid (in_c l1 h1.len A1 n1 c1 hn1 hc1 w hC1 r1 hr1)
  have H2 : Hid (∀ W, Below w.heap.size w W → _) := Lib.hid (fun W hb => in_c l2 h2.len A2 n2 c2 hn2 hc2 W (Kd.C_below hC2 hb) r2 hr2)
  have H3 : Hid (∀ W B1 m1 d1 B2 m2 d2, r1.length = m1 → r2.length = m2 → m1 ≤ d1 → m2 ≤ d2 → Kd.C k63 W B1 m1 r1 → Kd.C k63 W B2 m2 r2 → _) := Lib.hid (fun W B1 m1 d1 B2 m2 d2 q1 q2 q3 q4 k1 k2 => c30 r1 r2 B1 d1 B2 d2 W m1 m2 q1 q2 q3 q4 k1 k2 (by rw [← q1, ← hr1, List.length_map]; exact h1.len) (by rw [← q2, ← hr2, List.length_map]; exact h2.len) (by rw [← hr1]; exact h1.bd) (by rw [← hr2]; exact h2.bd))
  have HL : ∀ L : List S63, L.map sp = mergeL (r1.map sp) (r2.map sp) → L.length ≤ 8000000 ∧ (L.map cu).map s9 = mergeL (l1.map s9) (l2.map s9) := fun L hL => by
    rw [← hr1, ← hr2, sp_cv, sp_cv] at hL
    refine ⟨?_, by rw [s9_cu]; exact hL⟩
    have e := congrArg List.length hL
    have := mergeL_len (l1.map s9) (l2.map s9)
    simp only [List.length_map] at e this
    have := h1.len; have := h2.len; omega
  have HLL := Lib.hid HL
  clear HL
  generalize mergeL (l1.map s9) (l2.map s9) = R at *
  clear h1 h2 hC1 hC2 hr1 hr2 hc1 hc2 hn1 hn2
  go_enter Try.func16, Try.ntmps16
  go_wp2_with (first
    | (go_at_call 28; refine H1.out.mono ?_; rintro e W1 ⟨B1, m1, d1, rfl, q1, q2, k1, b1⟩; have K1 := Lib.hid k1; have HB := Lib.hid b1; have Q1 := Lib.hid q1; have Q2 := Lib.hid q2; clear H1 k1 b1 q1 q2)
    | (go_at_call 28; refine (H2.out _ HB.out).mono ?_; rintro e W2 ⟨B2, m2, d2, rfl, q1, q2, k2, b2⟩; have K2 := Lib.hid (Kd.C_below K1.out b2); have K3 := Lib.hid k2; have HB2 := Lib.hid (HB.out.trans (b2.mono HB.out.size)); have Q3 := Lib.hid q1; have Q4 := Lib.hid q2; clear H2 K1 HB k2 b2 q1 q2)
    | (go_at_call 30; refine (H3.out _ _ _ _ _ _ _ Q1.out Q3.out Q2.out Q4.out K2.out K3.out).mono ?_; rintro e W3 ⟨A, n, c, L, rfl, q1, q2, k3, hL, b3⟩; have HB3 := Lib.hid (HB2.out.trans (b3.mono HB2.out.size)); have K4 := Lib.hid k3; have Q5 := Lib.hid q1; have Q6 := Lib.hid q2; have Q7 := Lib.hid hL; clear b3 k3 q1 q2 hL)
    | (go_at_call 29; refine (out_c L (by have := (HLL.out L Q7.out).1; omega) _ _ _ Q5.out Q6.out _ K4.out).mono ?_; rintro e W4 ⟨A', n', c', rfl, q1, q2, k3, b4⟩; have HB4 := Lib.hid (HB3.out.trans (b4.mono HB3.out.size)); have K5 := Lib.hid k3; have Q8 := Lib.hid q1; have Q9 := Lib.hid q2; clear b4 k3 q1 q2))
  refine bodyPost_ret (v := .slice A' n' c') (by simp [results, Try.results16, go_sem]) rfl ?_
  exact ⟨A', n', c', L.map cu, rfl, Q8.out, Q9.out, K5.out, (HLL.out L Q7.out).2, HB4.out⟩
end Go.Proofs.Ytmfffeoodlmnbaa.Mw
