/- What the printed functions over sequences of spans return, plainly. No program in sight. -/
import Derived.Test.YtmfffeoodlmnbaaVp
import Derived.Test.YtmfffeoodlmnbaaSp3
namespace Go.Proofs.Ytmfffeoodlmnbaa.Pj
set_option linter.unusedSimpArgs false
set_option linter.unusedVariables false
open Go.RowKit Go.Proofs.Ytmfffeoodlmnbaa.Sp Go.Proofs.Ytmfffeoodlmnbaa.Iv Go.Proofs.Ytmfffeoodlmnbaa.Vp Go.Proofs.YtmfffeoodlmnbaaW.PrintWords Go.Proofs.YtmfffeoodlmnbaaW.PrintLast Go.Proofs.YtmfffeoodlmnbaaW.PrintMore
def s9 (x : S39) : Iv.Sp := (x.f0, x.f1)
def cv (x : S39) : S63 := ⟨x.f0, x.f1⟩
def cu (x : S63) : S39 := ⟨x.f0, x.f1⟩
theorem sp_cv (l : List S39) : (l.map cv).map sp = l.map s9 := by rw [List.map_map]; rfl
theorem s9_cu (l : List S63) : (l.map cu).map s9 = l.map sp := by rw [List.map_map]; rfl
theorem rd9 (l : List S39) (i : Nat) (h : i < l.length) : rd_T39 l (i : Int) = l[i] := by
  unfold rd_T39
  rw [Int.toNat_natCast, List.getD, List.getElem?_eq_getElem h]; rfl
theorem w64' (x : Int) (h : -9223372036854775808 ≤ x) (h' : x ≤ 9223372036854775807) : wrap64 x = x := by unfold wrap64; omega
theorem in_l (l : List S39) (hl : l.length ≤ 2147483648) : ∀ n i acc, i + n = l.length → acc.length ≤ i → impl_in.l0 (n + 1) acc l (l.length : Int) (i : Int) = some (acc ++ (l.drop i).map cv) := by
  intro n
  induction n with
  | zero =>
    intro i acc h ha
    rw [impl_in.l0, if_neg (by omega), List.drop_eq_nil_of_le (by omega)]; simp
  | succ n ih =>
    intro i acc h ha
    rw [impl_in.l0, if_pos (by omega), if_pos (by omega), if_pos (by omega)]
    unfold intervals_NewInterval.f
    rw [Option.bind_some, if_pos (by omega), w64' _ (by omega) (by omega)]
    have := ih (i + 1) (acc ++ [⟨(rd_T39 l i).f0, (rd_T39 l i).f1⟩]) (by omega) (by simp; omega)
    rw [show ((i : Int) + 1) = ((i + 1 : Nat) : Int) from by omega, this, rd9 l i (by omega), List.drop_eq_getElem_cons (by omega : i < l.length), List.append_assoc, List.map_cons]
    rfl
theorem in_f (l : List S39) (hl : l.length ≤ 2147483648) : impl_in.f (l.length + 1) l = some (l.map cv) := by
  have := in_l l hl l.length 0 [] (by omega) (by simp)
  unfold impl_in.f
  rw [show ((0 : Nat) : Int) = 0 from rfl] at this
  rw [this]; simp
theorem out_l (l : List S63) (hl : l.length ≤ 2147483648) : ∀ n i acc, i + n = l.length → acc.length ≤ i → impl_out.l0 (n + 1) acc l (l.length : Int) (i : Int) = some (acc ++ (l.drop i).map cu) := by
  intro n
  induction n with
  | zero =>
    intro i acc h ha
    rw [impl_out.l0, if_neg (by omega), List.drop_eq_nil_of_le (by omega)]; simp
  | succ n ih =>
    intro i acc h ha
    rw [impl_out.l0, if_pos (by omega), if_pos (by omega), if_pos (by omega)]
    unfold intervals_Interval_Bounds.f
    rw [Option.bind_some, if_pos (by omega), w64' _ (by omega) (by omega)]
    have := ih (i + 1) (acc ++ [⟨(rd_T63 l i).f0, (rd_T63 l i).f1⟩]) (by omega) (by simp; omega)
    rw [show ((i : Int) + 1) = ((i + 1 : Nat) : Int) from by omega, this, rd_get l i (by omega), List.drop_eq_getElem_cons (by omega : i < l.length), List.append_assoc, List.map_cons]
    rfl
theorem out_f (l : List S63) (hl : l.length ≤ 2147483648) : impl_out.f (l.length + 1) l = some (l.map cu) := by
  have := out_l l hl l.length 0 [] (by omega) (by simp)
  unfold impl_out.f
  rw [show ((0 : Nat) : Int) = 0 from rfl] at this
  rw [this]; simp
/-- the places of one span. -/
def okS (x : S39) : Prop := x.f0 < x.f1 ∧ -2305843009213693952 ≤ x.f0 ∧ x.f1 ≤ 2305843009213693952
instance (x : S39) : Decidable (okS x) := by unfold okS; infer_instance
instance (s : Iv.Sp) (x : Int) : Decidable (has s x) := by unfold has; infer_instance
theorem some_f (x : S39) : spec_Some.f x.f0 x.f1 = some (decide (okS x)) := by
  unfold spec_Some.f okS
  by_cases h1 : x.f0 < x.f1
  · rw [if_pos h1]
    by_cases h2 : x.f0 ≥ -2305843009213693952
    · rw [if_pos h2]; exact congrArg some (decide_eq_decide.2 (by omega))
    · rw [if_neg h2]; exact congrArg some (decide_eq_false (by omega)).symm
  · rw [if_neg h1]; exact congrArg some (decide_eq_false (by omega)).symm
/-- what Proper asks, from the i-th on. -/
def ps (l : List S39) (i : Nat) : Prop := (∀ lo, (i = 0 → lo < -2305843009213693952) → (0 < i → lo = (rd_T39 l ((i : Int) - 1)).f1) → Gap lo ((l.drop i).map s9)) ∧ (∀ x ∈ l.drop i, okS x) ∧ l.length ≤ 1000000
theorem proper_l (l : List S39) (hl : l.length ≤ 2147483648) : ∀ n i, i + n = l.length → ∃ r, spec_Proper.l0 (n + 1) l l (l.length : Int) (i : Int) = some r ∧ (r = true → ps l i) := by
  intro n
  induction n with
  | zero =>
    intro i h
    refine ⟨_, by rw [spec_Proper.l0, if_neg (by omega)], fun hr => ?_⟩
    have : l.length ≤ 1000000 := by have := of_decide_eq_true hr; omega
    refine ⟨fun lo _ _ => ?_, ?_, this⟩
    · rw [List.drop_eq_nil_of_le (by omega)]; trivial
    · rw [List.drop_eq_nil_of_le (by omega)]; intro x hx; cases hx
  | succ n ih =>
    intro i h
    obtain ⟨r, hr, hps⟩ := ih (i + 1) (by omega)
    have hi : i < l.length := by omega
    have hd := List.drop_eq_getElem_cons hi
    have e1 : wrap64 ((i : Int) + 1) = ((i + 1 : Nat) : Int) := by rw [w64' _ (by omega) (by omega)]; omega
    have e2 : wrap64 ((i : Int) - 1) = (i : Int) - 1 := w64' _ (by omega) (by omega)
    have e3 : (((i + 1 : Nat) : Int) - 1) = (i : Int) := by omega
    have key : okS l[i] → (0 < i → (rd_T39 l ((i : Int) - 1)).f1 < l[i].f0) → r = true → ps l i := by
      intro hok hprev hrt
      obtain ⟨g, b, c⟩ := hps hrt
      refine ⟨fun lo h0 h1 => ?_, ?_, c⟩
      · rw [hd, List.map_cons]
        have g' := g (l[i].f1) (by omega) (fun _ => by rw [e3, rd9 l i hi])
        refine ⟨?_, hok.1, g'⟩
        show lo < l[i].f0
        rcases Nat.eq_zero_or_pos i with hz | hp
        · have := h0 hz; have := hok.2.1; omega
        · rw [h1 hp]; exact hprev hp
      · rw [hd]; intro x hx
        rcases List.mem_cons.1 hx with rfl | hx
        · exact hok
        · exact b x hx
    rw [spec_Proper.l0, if_pos (by omega), if_pos (by omega), if_pos (by omega), rd9 l i hi, some_f, Option.bind_some, e1, e2]
    by_cases hok : okS l[i]
    · rw [if_pos (decide_eq_true hok)]
      by_cases hp : (i : Int) > 0
      · rw [if_pos hp, if_pos (by omega), if_pos (by omega)]
        by_cases hg : (rd_T39 l ((i : Int) - 1)).f1 ≥ l[i].f0
        · rw [if_pos hg]; exact ⟨false, rfl, fun h => by cases h⟩
        · rw [if_neg hg]; exact ⟨r, hr, key hok (fun _ => by omega)⟩
      · rw [if_neg hp]; exact ⟨r, hr, key hok (fun _ => by omega)⟩
    · rw [if_neg (by simpa using hok)]; exact ⟨false, rfl, fun h => by cases h⟩
theorem proper_f (l : List S39) (hl : l.length ≤ 2147483648) : ∃ r, spec_Proper.f (l.length + 1) l = some r ∧ (r = true → Gap (-2305843009213693953) (l.map s9) ∧ (∀ x ∈ l, okS x) ∧ l.length ≤ 1000000) := by
  obtain ⟨r, hr, h⟩ := proper_l l hl l.length 0 (by omega)
  refine ⟨r, hr, fun ht => ?_⟩
  obtain ⟨a, b, c⟩ := h ht
  exact ⟨by simpa using a (-2305843009213693953) (fun _ => by decide) (by omega), by simpa using b, c⟩
theorem bd_of (l : List S39) (h : ∀ x ∈ l, okS x) : Bd (l.map cv) := by
  intro q hq
  rw [sp_cv] at hq
  obtain ⟨x, hx, rfl⟩ := List.mem_map.1 hq
  have := h x hx
  unfold okS at this
  simp only [s9]
  omega
theorem has_l (l : List S39) (hl : l.length ≤ 2147483648) (x : Int) : ∀ n i, i + n = l.length → ∃ r, spec_SetHas.l0 (n + 1) x l (l.length : Int) (i : Int) = some r ∧ (r = true ↔ hasL ((l.drop i).map s9) x) := by
  intro n
  induction n with
  | zero =>
    intro i h
    refine ⟨false, by rw [spec_SetHas.l0, if_neg (by omega)], ?_⟩
    rw [List.drop_eq_nil_of_le (by omega)]
    simp [hasL]
  | succ n ih =>
    intro i h
    obtain ⟨r, hr, hrr⟩ := ih (i + 1) (by omega)
    have hi : i < l.length := by omega
    have e1 : wrap64 ((i : Int) + 1) = ((i + 1 : Nat) : Int) := by rw [w64' _ (by omega) (by omega)]; omega
    have hf : spec_Has.f (l[i].f0) (l[i].f1) x = some (decide (has (s9 l[i]) x)) := by
      unfold spec_Has.f has s9
      by_cases h1 : l[i].f0 ≤ x
      · rw [if_pos h1]; exact congrArg some (decide_eq_decide.2 (by omega))
      · rw [if_neg h1]; exact congrArg some (decide_eq_false (by omega)).symm
    rw [spec_SetHas.l0, if_pos (by omega), if_pos (by omega), if_pos (by omega), rd9 l i hi, hf, Option.bind_some, e1, List.drop_eq_getElem_cons hi, List.map_cons]
    by_cases hh : has (s9 l[i]) x
    · rw [if_pos (decide_eq_true hh)]; exact ⟨true, rfl, by rw [hasL_cons]; exact ⟨fun _ => .inl hh, fun _ => rfl⟩⟩
    · rw [if_neg (by simpa using hh)]
      exact ⟨r, hr, by rw [hasL_cons, hrr]; exact ⟨.inr, fun h => h.elim (fun h => absurd h hh) id⟩⟩
theorem has_f (l : List S39) (hl : l.length ≤ 2147483648) (x : Int) : ∃ r, spec_SetHas.f (l.length + 1) l x = some r ∧ (r = true ↔ hasL (l.map s9) x) := by
  obtain ⟨r, hr, h⟩ := has_l l hl x l.length 0 (by omega)
  exact ⟨r, hr, by simpa using h⟩
theorem overlap_f (s t : S39) (hs : okS s) (ht : okS t) : impl_Overlap.f s.f0 s.f1 t.f0 t.f1 = some (ov (s9 s) (s9 t)) := by
  unfold impl_Overlap.f intervals_NewInterval.f
  have := over_f (s9 s) (s9 t) (by unfold okS at hs; simp only [s9]; omega) (by unfold okS at ht; simp only [s9]; omega)
  simp only [s9] at this
  simp only [Option.bind_some]
  rw [this]; rfl
theorem ivWorks_f : laws_ivWorks.f = some true := by
  unfold laws_ivWorks.f
  rw [show impl_Overlap.f 1 5 4 9 = some (ov (1, 5) (4, 9)) from overlap_f ⟨1, 5⟩ ⟨4, 9⟩ (by decide) (by decide)]
  rfl
end Go.Proofs.Ytmfffeoodlmnbaa.Pj
