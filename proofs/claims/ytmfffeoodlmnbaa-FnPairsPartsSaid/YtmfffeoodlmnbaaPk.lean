/- What spec.Same, spec.Ordered return of sequences that are equal, in order; plainly. No program in sight. -/
import Derived.Test.YtmfffeoodlmnbaaPj
namespace Go.Proofs.Ytmfffeoodlmnbaa.Pk
set_option linter.unusedSimpArgs false
open Go.RowKit Go.Proofs.Ytmfffeoodlmnbaa.Sp Go.Proofs.Ytmfffeoodlmnbaa.Iv Go.Proofs.Ytmfffeoodlmnbaa.Vp Go.Proofs.Ytmfffeoodlmnbaa.Pj Go.Proofs.YtmfffeoodlmnbaaW.PrintWords Go.Proofs.YtmfffeoodlmnbaaW.PrintLast Go.Proofs.YtmfffeoodlmnbaaW.PrintMore
theorem s9_inj : ∀ (l m : List S39), l.map s9 = m.map s9 → l = m
  | [], [], _ => rfl
  | [], _ :: _, h => by cases h
  | _ :: _, [], h => by cases h
  | ⟨a, b⟩ :: l, ⟨c, d⟩ :: m, h => by
    simp only [List.map_cons, List.cons.injEq, s9, Prod.mk.injEq] at h
    obtain ⟨⟨rfl, rfl⟩, h⟩ := h
    rw [s9_inj l m h]
theorem same_l (l : List S39) (hl : l.length ≤ 2147483648) : ∀ n i, i + n = l.length → spec_Same.l0 (n + 1) l l (l.length : Int) (i : Int) = some true := by
  intro n
  induction n with
  | zero => intro i h; rw [spec_Same.l0, if_neg (by omega)]
  | succ n ih =>
    intro i h
    have e1 : wrap64 ((i : Int) + 1) = ((i + 1 : Nat) : Int) := by rw [w64' _ (by omega) (by omega)]; omega
    rw [spec_Same.l0, if_pos (by omega), if_pos (by omega), if_pos (by omega), if_pos (by omega), if_neg (by simp), e1, ih (i + 1) (by omega)]
theorem same_f (l : List S39) (hl : l.length ≤ 2147483648) : spec_Same.f (l.length + 1) l l = some true := by
  unfold spec_Same.f
  rw [if_pos rfl]
  exact same_l l hl l.length 0 (by omega)
def okB' (q : Iv.Sp) : Prop := -2305843009213693952 ≤ q.1 ∧ q.1 ≤ 2305843009213693952 ∧ -2305843009213693952 ≤ q.2 ∧ q.2 ≤ 2305843009213693952
theorem gap_at (l : List S39) : ∀ lo, Gap lo (l.map s9) → ∀ i, (h : i < l.length) → l[i].f0 < l[i].f1 ∧ (0 < i → ∀ (h' : i - 1 < l.length), l[i - 1].f1 < l[i].f0) := by
  induction l with
  | nil => intro lo _ i h; simp at h
  | cons a l ih =>
    intro lo hg i h
    rw [List.map_cons] at hg
    cases i with
    | zero => exact ⟨hg.2.1, by omega⟩
    | succ i =>
      have hi : i < l.length := by simpa using h
      have := ih _ hg.2.2 i hi
      refine ⟨this.1, fun _ h' => ?_⟩
      cases i with
      | zero =>
        cases l with
        | nil => simp at hi
        | cons b l => exact hg.2.2.1
      | succ i => exact this.2 (by omega) (by omega)
theorem ordered_l (l : List S39) (hl : l.length ≤ 2147483648) (lo : Int) (hg : Gap lo (l.map s9)) (hb : ∀ s ∈ l.map s9, okB' s) : ∀ n i, i + n = l.length → spec_Ordered.l0 (n + 1) l l (l.length : Int) (i : Int) = some true := by
  intro n
  induction n with
  | zero => intro i h; rw [spec_Ordered.l0, if_neg (by omega)]
  | succ n ih =>
    intro i h
    have hi : i < l.length := by omega
    have e1 : wrap64 ((i : Int) + 1) = ((i + 1 : Nat) : Int) := by rw [w64' _ (by omega) (by omega)]; omega
    have e2 : wrap64 ((i : Int) - 1) = (i : Int) - 1 := w64' _ (by omega) (by omega)
    obtain ⟨g1, g2⟩ := gap_at l lo hg i hi
    have ho : okS l[i] := by
      have := hb (s9 l[i]) (List.mem_map.2 ⟨l[i], List.getElem_mem hi, rfl⟩)
      unfold okB' at this; simp only [s9] at this
      exact ⟨g1, by omega, by omega⟩
    rw [spec_Ordered.l0, if_pos (by omega), if_pos (by omega), if_pos (by omega), rd9 l i hi, some_f, Option.bind_some, e1, e2, if_pos (decide_eq_true ho)]
    by_cases hp : (i : Int) > 0
    · have hq : (rd_T39 l ((i : Int) - 1)).f1 < l[i].f0 := by
        have := g2 (by omega) (by omega)
        rw [show ((i : Int) - 1) = ((i - 1 : Nat) : Int) from by omega, rd9 l (i - 1) (by omega)]
        exact this
      rw [if_pos hp, if_pos (by omega), if_pos (by omega), if_neg (by omega), ih (i + 1) (by omega)]
    · rw [if_neg hp, ih (i + 1) (by omega)]
theorem ordered_f (l : List S39) (hl : l.length ≤ 2147483648) (lo : Int) (hg : Gap lo (l.map s9)) (hb : ∀ s ∈ l.map s9, okB' s) : spec_Ordered.f (l.length + 1) l = some true := ordered_l l hl lo hg hb l.length 0 (by omega)
end Go.Proofs.Ytmfffeoodlmnbaa.Pk
