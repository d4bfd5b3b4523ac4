/- What spec.Backwards asks of events, plainly. No program in sight. -/
import Derived.Test.YtmfffeoodlmnbaaBd18
import Derived.Test.YtmfffeoodlmnbaaSp4
namespace Go.Proofs.Ytmfffeoodlmnbaa.Pb
set_option linter.unusedSimpArgs false
set_option linter.unusedVariables false
open Go.RowKit Go.Proofs.Ytmfffeoodlmnbaa.Sp Go.Proofs.Ytmfffeoodlmnbaa.Iv Go.Proofs.Ytmfffeoodlmnbaa.Pj Go.Proofs.Ytmfffeoodlmnbaa.Bd18 Go.Proofs.YtmfffeoodlmnbaaW.PrintWords Go.Proofs.YtmfffeoodlmnbaaW.PrintLast Go.Proofs.YtmfffeoodlmnbaaW.PrintMore
theorem back_l (l : List S32) (hl : l.length ≤ 1000000) : ∀ n i, i + n = l.length → ∃ r, spec_Backwards.l0 (n + 1) l l (l.length : Int) (i : Int) = some r ∧
    (r = true → ∀ k : Nat, i ≤ k → k < l.length → 0 ≤ (rd_T32 l k).f0 ∧ (rd_T32 l k).f0 ≤ 1099511627776 ∧ (0 < k → (rd_T32 l k).f0 < (rd_T32 l ((k : Int) - 1)).f0)) := by
  intro n
  induction n with
  | zero => intro i h; exact ⟨true, by rw [spec_Backwards.l0, if_neg (by omega)], fun _ k h1 h2 => by omega⟩
  | succ n ih =>
    intro i h
    obtain ⟨r, hr, hps⟩ := ih (i + 1) (by omega)
    have e1 : wrap64 ((i : Int) + 1) = ((i + 1 : Nat) : Int) := by rw [w64' _ (by omega) (by omega)]; omega
    have e2 : wrap64 ((i : Int) - 1) = (i : Int) - 1 := w64' _ (by omega) (by omega)
    have key : ∀ (a : 0 ≤ (rd_T32 l i).f0) (b : (rd_T32 l i).f0 ≤ 1099511627776) (c : 0 < i → (rd_T32 l i).f0 < (rd_T32 l ((i : Int) - 1)).f0), r = true → ∀ k : Nat, i ≤ k → k < l.length → 0 ≤ (rd_T32 l k).f0 ∧ (rd_T32 l k).f0 ≤ 1099511627776 ∧ (0 < k → (rd_T32 l k).f0 < (rd_T32 l ((k : Int) - 1)).f0) := by
      intro a b c hrt k h1 h2
      by_cases e : k = i
      · subst e; exact ⟨a, b, c⟩
      · exact hps hrt k (by omega) h2
    rw [spec_Backwards.l0, if_pos (by omega), if_pos (by omega), if_pos (by omega), e1, e2]
    by_cases h1 : (rd_T32 l (i : Int)).f0 < 0
    · rw [if_pos h1]; exact ⟨false, rfl, fun h => by cases h⟩
    · rw [if_neg h1]
      by_cases h2 : (rd_T32 l (i : Int)).f0 > 1099511627776
      · rw [if_pos h2]; exact ⟨false, rfl, fun h => by cases h⟩
      · rw [if_neg h2]
        by_cases hp : (i : Int) > 0
        · rw [if_pos hp, if_pos (by omega), if_pos (by omega)]
          by_cases hg : (rd_T32 l ((i : Int) - 1)).f0 ≤ (rd_T32 l (i : Int)).f0
          · rw [if_pos hg]; exact ⟨false, rfl, fun h => by cases h⟩
          · rw [if_neg hg]; exact ⟨r, hr, key (by omega) (by omega) (fun _ => by omega)⟩
        · rw [if_neg hp]; exact ⟨r, hr, key (by omega) (by omega) (fun h => by omega)⟩
/-- what Backwards takes: the events' places, one by one. -/
def Bk (l : List S32) : Prop := l.length ≤ 1000000 ∧ ∀ k : Nat, k < l.length → 0 ≤ (rd_T32 l k).f0 ∧ (rd_T32 l k).f0 ≤ 1099511627776 ∧ (0 < k → (rd_T32 l k).f0 < (rd_T32 l ((k : Int) - 1)).f0)
theorem back_f (l : List S32) : ∃ r, spec_Backwards.f (l.length + 1) l = some r ∧ (r = true → Bk l) := by
  unfold spec_Backwards.f
  by_cases h : (l.length : Int) > 1000000
  · rw [if_pos h]; exact ⟨false, rfl, fun h => by cases h⟩
  · rw [if_neg h]
    obtain ⟨r, hr, hk⟩ := back_l l (by omega) l.length 0 (by omega)
    exact ⟨r, hr, fun ht => ⟨by omega, fun k hk' => hk ht k (Nat.zero_le _) hk'⟩⟩
theorem fall_of (l : List S32) : ∀ p, (∀ k : Nat, k < l.length → (rd_T32 l k).f0 < p ∧ (0 < k → (rd_T32 l k).f0 < (rd_T32 l ((k : Int) - 1)).f0)) → Fall p (l.map ev) := by
  induction l with
  | nil => intro p _; trivial
  | cons a l ih =>
    intro p h
    rw [List.map_cons]
    have h0 := (h 0 (by simp)).1
    refine ⟨h0, ih _ (fun k hk => ?_)⟩
    have hs : ∀ j : Nat, rd_T32 (a :: l) ((j + 1 : Nat) : Int) = rd_T32 l (j : Int) := fun j => by unfold rd_T32; rw [Int.toNat_natCast, Int.toNat_natCast]; rfl
    have h1 := h (k + 1) (by simpa using hk)
    rw [hs] at h1
    have e : (((k + 1 : Nat) : Int) - 1) = (k : Int) := by omega
    rw [e] at h1
    refine ⟨?_, fun hp => ?_⟩
    · have : ∀ k : Nat, k < l.length → (rd_T32 l k).f0 < a.f0 := by
        intro k
        induction k with
        | zero => intro hk; have := (h 1 (by simpa using hk)).2 (by omega); rw [show ((1 : Nat) : Int) = ((0 + 1 : Nat) : Int) from rfl, hs] at this; exact this
        | succ k ih2 =>
          intro hk
          have h2 := (h (k + 1 + 1) (by simpa using hk)).2 (by omega)
          rw [hs, show (((k + 1 + 1 : Nat) : Int) - 1) = ((k + 1 : Nat) : Int) from by omega, hs] at h2
          have := ih2 (by omega)
          omega
      exact this k hk
    · have h3 := h1.2 (by omega)
      obtain ⟨j, rfl⟩ : ∃ j, k = j + 1 := ⟨k - 1, by omega⟩
      rw [hs] at h3
      rw [show (((j + 1 : Nat) : Int) - 1) = (j : Int) from by omega]
      exact h3
theorem Bk.fall {l : List S32} (h : Bk l) : Fall 1099511627777 (l.map ev) := fall_of l _ (fun k hk => by have := h.2 k hk; exact ⟨by omega, this.2.2⟩)
theorem Bk.pos {l : List S32} (h : Bk l) : ∀ e ∈ l.map ev, -1 < e.1 := by
  intro e he
  obtain ⟨x, hx, rfl⟩ := List.mem_map.1 he
  obtain ⟨k, hk, rfl⟩ := List.getElem_of_mem hx
  have := (h.2 k hk).1
  rw [rd2 l k hk] at this
  simp only [ev]; omega
theorem Bk.gap {l : List S32} (h : Bk l) : Gap (-1) (bfold [] false (l.map ev)) := bfold_gap (l.map ev) [] false 1099511627777 (-1) h.fall h.pos (by omega) (fun _ => trivial) (fun h => by cases h)
theorem Bk.hev {l : List S32} (h : Bk l) : ∀ i : Nat, i < l.length → 0 ≤ (rd_T32 l i).f0 ∧ (rd_T32 l i).f0 ≤ 1099511627776 ∧ (0 < i → (rd_T32 l i).f0 < (rd_T32 l ((i : Int) - 1)).f0 ∧ (rd_T32 l ((i : Int) - 1)).f0 ≤ 1099511627776) := fun i hi => by
  obtain ⟨a, b, c⟩ := h.2 i hi
  refine ⟨a, b, fun hp => ⟨c hp, ?_⟩⟩
  have := (h.2 (i - 1) (by omega)).2.1
  rw [show ((i - 1 : Nat) : Int) = (i : Int) - 1 from by omega] at this
  exact this
end Go.Proofs.Ytmfffeoodlmnbaa.Pb
