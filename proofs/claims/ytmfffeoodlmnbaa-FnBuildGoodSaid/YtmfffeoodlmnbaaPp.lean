/- spec.Proper takes a sequence of spans in order, plainly; no program in sight. Condition: at most 1000000 of them, within the bounds, a place between two at least. -/
import Derived.Test.YtmfffeoodlmnbaaPk
import Derived.Test.YtmfffeoodlmnbaaMw
namespace Go.Proofs.Ytmfffeoodlmnbaa.Pp
open Go.RowKit Go.Proofs.Ytmfffeoodlmnbaa.Sp Go.Proofs.Ytmfffeoodlmnbaa.Iv Go.Proofs.Ytmfffeoodlmnbaa.Vp Go.Proofs.Ytmfffeoodlmnbaa.Pj Go.Proofs.Ytmfffeoodlmnbaa.Pk Go.Proofs.YtmfffeoodlmnbaaW.PrintWords Go.Proofs.YtmfffeoodlmnbaaW.PrintLast Go.Proofs.YtmfffeoodlmnbaaW.PrintMore
/-- Proper takes a sequence in order. -/
theorem proper_yes (l : List S39) (hl : l.length ≤ 1000000) (lo : Int) (hg : Gap lo (l.map s9)) (hb : ∀ s ∈ l.map s9, okB' s) : ∀ n i, i + n = l.length → spec_Proper.l0 (n + 1) l l (l.length : Int) (i : Int) = some true := by
  intro n
  induction n with
  | zero => intro i h; rw [spec_Proper.l0, if_neg (by omega)]; exact congrArg some (decide_eq_true (by omega))
  | succ n ih =>
    intro i h
    have hi : i < l.length := by omega
    have e1 : wrap64 ((i : Int) + 1) = ((i + 1 : Nat) : Int) := by rw [w64' _ (by omega) (by omega)]; omega
    have e2 : wrap64 ((i : Int) - 1) = (i : Int) - 1 := w64' _ (by omega) (by omega)
    obtain ⟨g1, g2⟩ := gap_at l lo hg i hi
    have ho : okS l[i] := by
      have := hb (s9 l[i]) (List.mem_map.2 ⟨l[i], List.getElem_mem hi, rfl⟩)
      unfold okB' at this; simp only [s9] at this
      exact ⟨g1, by omega, by omega⟩
    rw [spec_Proper.l0, if_pos (by omega), if_pos (by omega), if_pos (by omega), rd9 l i hi, some_f, Option.bind_some, e1, e2, if_pos (decide_eq_true ho)]
    by_cases hp : (i : Int) > 0
    · have hq : (rd_T39 l ((i : Int) - 1)).f1 < l[i].f0 := by
        have := g2 (by omega) (by omega)
        rw [show ((i : Int) - 1) = ((i - 1 : Nat) : Int) from by omega, rd9 l (i - 1) (by omega)]
        exact this
      rw [if_pos hp, if_pos (by omega), if_pos (by omega), if_neg (by omega), ih (i + 1) (by omega)]
    · rw [if_neg hp, ih (i + 1) (by omega)]
theorem proper_t (l : List S39) (hl : l.length ≤ 1000000) (lo : Int) (hg : Gap lo (l.map s9)) (hb : ∀ s ∈ l.map s9, okB' s) : spec_Proper.f (l.length + 1) l = some true := proper_yes l hl lo hg hb l.length 0 (by omega)
end Go.Proofs.Ytmfffeoodlmnbaa.Pp
