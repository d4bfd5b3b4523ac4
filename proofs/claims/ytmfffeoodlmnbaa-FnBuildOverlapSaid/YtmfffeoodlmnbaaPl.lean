/- What spec.Live says of events in falling order, plainly. No program in sight. -/
import Derived.Test.YtmfffeoodlmnbaaPb
namespace Go.Proofs.Ytmfffeoodlmnbaa.Pl
set_option linter.unusedSimpArgs false
set_option linter.unusedVariables false
open Go.RowKit Go.Proofs.Ytmfffeoodlmnbaa.Sp Go.Proofs.Ytmfffeoodlmnbaa.Iv Go.Proofs.Ytmfffeoodlmnbaa.Pj Go.Proofs.Ytmfffeoodlmnbaa.Bd18 Go.Proofs.Ytmfffeoodlmnbaa.Pb Go.Proofs.YtmfffeoodlmnbaaW.PrintWords Go.Proofs.YtmfffeoodlmnbaaW.PrintLast Go.Proofs.YtmfffeoodlmnbaaW.PrintMore
/-- from place to place the events fall. -/
theorem Bk.falls {l : List S32} (h : Bk l) : ∀ d i : Nat, i + d < l.length → (rd_T32 l ((i + d : Nat) : Int)).f0 ≤ (rd_T32 l (i : Int)).f0 := by
  intro d
  induction d with
  | zero => intro i _; exact Int.le_refl _
  | succ d ih =>
    intro i hi
    have h1 := ih i (by omega)
    have h2 := (h.2 (i + (d + 1)) hi).2.2 (by omega)
    rw [show (((i + (d + 1) : Nat) : Int) - 1) = ((i + d : Nat) : Int) from by omega] at h2
    omega
theorem Bk.falls' {l : List S32} (h : Bk l) (i j : Nat) (hij : i ≤ j) (hj : j < l.length) : (rd_T32 l (j : Int)).f0 ≤ (rd_T32 l (i : Int)).f0 := by
  have := Bk.falls h (j - i) i (by omega)
  rw [show i + (j - i) = j from by omega] at this
  exact this
theorem behind_l (l : List S32) (h : Bk l) (x : Int) : ∀ k lo hi : Nat, lo ≤ hi → hi ≤ l.length → hi - lo < k → (∀ i : Nat, i < lo → x ≤ (rd_T32 l (i : Int)).f0) → (∀ i : Nat, hi ≤ i → i < l.length → (rd_T32 l (i : Int)).f0 < x) →
    ∃ n : Nat, spec_behind.l0 k l x (lo : Int) (hi : Int) = some (n : Int) ∧ n ≤ l.length ∧ (∀ i : Nat, i < n → x ≤ (rd_T32 l (i : Int)).f0) ∧ (∀ i : Nat, n ≤ i → i < l.length → (rd_T32 l (i : Int)).f0 < x) := by
  intro k
  induction k with
  | zero => intro lo hi _ _ h3; omega
  | succ k ih =>
    intro lo hi h1 h2 h3 hlo hhi
    have hlen := h.1
    rw [spec_behind.l0]
    by_cases hlt : (lo : Int) < (hi : Int)
    · have e0 : wrap64 ((lo : Int) + (hi : Int)) = ((lo + hi : Nat) : Int) := by rw [w64' _ (by omega) (by omega)]; omega
      have e1 : wrap64 (Int.tdiv (wrap64 ((lo : Int) + (hi : Int))) 2) = (((lo + hi) / 2 : Nat) : Int) := by
        rw [e0, Int.tdiv_eq_ediv_of_nonneg (by omega), w64' _ (by omega) (by omega)]; omega
      have e2 : wrap64 ((((lo + hi) / 2 : Nat) : Int) + 1) = (((lo + hi) / 2 + 1 : Nat) : Int) := by rw [w64' _ (by omega) (by omega)]; omega
      rw [if_pos hlt, e1, if_pos (by omega), if_pos (by omega), e2]
      generalize hm : (lo + hi) / 2 = m
      by_cases hge : (rd_T32 l (m : Int)).f0 ≥ x
      · rw [if_pos hge]
        exact ih (m + 1) hi (by omega) h2 (by omega) (fun i hi' => by have := Bk.falls' h i m (by omega) (by omega); omega) hhi
      · rw [if_neg hge]
        exact ih lo m (by omega) (by omega) (by omega) hlo (fun i hi' hl => by have := Bk.falls' h m i hi' hl; omega)
    · have : lo = hi := by omega
      subst this
      rw [if_neg hlt]
      exact ⟨lo, rfl, h2, hlo, hhi⟩
theorem behind_f (l : List S32) (h : Bk l) (x : Int) : ∃ n : Nat, spec_behind.f (l.length + 1) l x = some (n : Int) ∧ Behind (l.map ev) n x := by
  obtain ⟨n, hn, h1, h2, h3⟩ := behind_l l h x (l.length + 1) 0 l.length (Nat.zero_le _) (Nat.le_refl _) (by omega) (fun i hi => absurd hi (by omega)) (fun i h1 h2 => absurd h1 (by omega))
  refine ⟨n, hn, by rw [List.length_map]; exact h1, fun e he => ?_, fun e he => ?_⟩
  · rw [← List.map_take] at he
    obtain ⟨y, hy, rfl⟩ := List.mem_map.1 he
    obtain ⟨i, hi, rfl⟩ := List.getElem_of_mem hy
    rw [List.length_take] at hi
    rw [List.getElem_take]
    have := h2 i (by omega)
    rw [rd2 l i (by omega)] at this
    exact this
  · rw [← List.map_drop] at he
    obtain ⟨y, hy, rfl⟩ := List.mem_map.1 he
    obtain ⟨i, hi, rfl⟩ := List.getElem_of_mem hy
    rw [List.length_drop] at hi
    rw [List.getElem_drop]
    have := h3 (n + i) (by omega) (by omega)
    rw [rd2 l (n + i) (by omega)] at this
    exact this
theorem live_f (l : List S32) (h : Bk l) (x : Int) : ∃ (r : Bool) (n : Nat), spec_Live.f (l.length + 1) l x = some r ∧ Behind (l.map ev) n x ∧ (r = true ↔ LiveAt (l.map ev) n x) := by
  obtain ⟨n, hn, hb⟩ := behind_f l h x
  have hlen := h.1
  have hnl := hb.1
  rw [List.length_map] at hnl
  unfold spec_Live.f
  rw [hn, Option.bind_some]
  by_cases h0 : (n : Int) = 0
  · rw [if_pos h0]
    exact ⟨false, n, rfl, hb, ⟨(fun h => by cases h), (fun ⟨e, h1, _⟩ => by omega)⟩⟩
  · have e1 : wrap64 ((n : Int) - 1) = ((n - 1 : Nat) : Int) := by rw [w64' _ (by omega) (by omega)]; omega
    have hi : n - 1 < l.length := by omega
    have hg : (l.map ev)[n - 1]? = some (ev l[n - 1]) := by rw [List.getElem?_map, List.getElem?_eq_getElem hi]; rfl
    rw [if_neg h0, e1, if_pos (by omega), if_pos (by omega), rd2 l (n - 1) hi]
    have key : LiveAt (l.map ev) n x ↔ (l[n - 1].f1 = false ∧ (n < l.length ∨ l[n - 1].f0 = x)) := by
      unfold LiveAt
      rw [hg, List.length_map]
      constructor
      · rintro ⟨e, _, he, h2, h3⟩
        cases he
        exact ⟨h2, h3⟩
      · rintro ⟨h2, h3⟩
        exact ⟨_, by omega, rfl, h2, h3⟩
    by_cases hk : l[n - 1].f1 = true
    · rw [if_pos hk]
      exact ⟨false, n, rfl, hb, by rw [key, hk]; simp⟩
    · rw [if_neg hk]
      rw [Bool.not_eq_true] at hk
      by_cases hlt : (n : Int) < (l.length : Int)
      · rw [if_pos hlt]
        exact ⟨true, n, rfl, hb, by rw [key, hk]; simp; omega⟩
      · rw [if_neg hlt]
        exact ⟨_, n, rfl, hb, by rw [key, hk, beq_iff_eq]; simp; omega⟩
theorem fall_mono {p q : Int} (l : List Ev) (h : Fall p l) (hpq : p ≤ q) : Fall q l := by
  cases l with
  | nil => trivial
  | cons e l => exact ⟨by have := h.1; omega, h.2⟩
/-- a place is in what is built exactly if spec.Live says so. -/
theorem built (l : List S32) (h : Bk l) (x : Int) : ∃ r, spec_Live.f (l.length + 1) l x = some r ∧ (r = true ↔ hasL (bfold [] false (l.map ev)) x) := by
  obtain ⟨r, n, hr, hb, hk⟩ := live_f l h x
  refine ⟨r, hr, ?_⟩
  rw [hk, build_live (l.map ev) n x (max 1099511627777 (x + 1)) (fall_mono _ h.fall (by omega)) (by omega) hb]
/-- the answer of spec.Live. -/
def lv (l : List S32) (x : Int) : Bool := (spec_Live.f (l.length + 1) l x).getD false
theorem lv_f (l : List S32) (h : Bk l) (x : Int) : spec_Live.f (l.length + 1) l x = some (lv l x) ∧ (lv l x = true ↔ hasL (bfold [] false (l.map ev)) x) := by
  obtain ⟨r, hr, hk⟩ := built l h x
  unfold lv
  rw [hr]
  exact ⟨rfl, hk⟩
/-- two that are built have a place in common exactly if both are live at the place of a use. -/
theorem both_use (one two : List S32) (h1 : Bk one) (h2 : Bk two) :
    Both (bfold [] false (one.map ev)) (bfold [] false (two.map ev)) ↔ (one ++ two).any (fun e => !e.f1 && (lv one e.f0 && lv two e.f0)) = true := by
  have B1 : ∀ x, ∃ n, Behind (one.map ev) n x := fun x => by obtain ⟨n, _, hb⟩ := behind_f one h1 x; exact ⟨n, hb⟩
  have B2 : ∀ x, ∃ n, Behind (two.map ev) n x := fun x => by obtain ⟨n, _, hb⟩ := behind_f two h2 x; exact ⟨n, hb⟩
  have f1 := h1.fall
  have f2 := h2.fall
  rw [build_both (one.map ev) (two.map ev) 1099511627777 f1 f2 (fun x => (B1 x).choose) (fun x => (B2 x).choose) (fun x _ => (B1 x).choose_spec) (fun x _ => (B2 x).choose_spec)]
  rw [List.any_eq_true]
  have L1 : ∀ x, x < 1099511627777 → (lv one x = true ↔ LiveAt (one.map ev) (B1 x).choose x) := fun x hx => by rw [(lv_f one h1 x).2, build_live _ _ x _ f1 hx (B1 x).choose_spec]
  have L2 : ∀ x, x < 1099511627777 → (lv two x = true ↔ LiveAt (two.map ev) (B2 x).choose x) := fun x hx => by rw [(lv_f two h2 x).2, build_live _ _ x _ f2 hx (B2 x).choose_spec]
  constructor
  · rintro ⟨e, hm, hk, la, lb⟩
    have he : e.1 < 1099511627777 := by
      rcases hm with hm | hm
      · exact fall_lt _ _ f1 e hm
      · exact fall_lt _ _ f2 e hm
    obtain ⟨y, hy, rfl⟩ : ∃ y, y ∈ one ++ two ∧ ev y = e := by
      rcases hm with hm | hm
      · obtain ⟨y, hy, e⟩ := List.mem_map.1 hm; exact ⟨y, List.mem_append_left _ hy, e⟩
      · obtain ⟨y, hy, e⟩ := List.mem_map.1 hm; exact ⟨y, List.mem_append_right _ hy, e⟩
    refine ⟨y, hy, ?_⟩
    have hk' : y.f1 = false := hk
    rw [hk', (L1 y.f0 he).2 la, (L2 y.f0 he).2 lb]
    rfl
  · rintro ⟨y, hy, hh⟩
    simp only [Bool.and_eq_true, Bool.not_eq_true'] at hh
    have hm : ev y ∈ one.map ev ∨ ev y ∈ two.map ev := by
      rcases List.mem_append.1 hy with hy | hy
      · exact .inl (List.mem_map.2 ⟨y, hy, rfl⟩)
      · exact .inr (List.mem_map.2 ⟨y, hy, rfl⟩)
    have he : y.f0 < 1099511627777 := by
      rcases hm with hm | hm
      · exact fall_lt _ _ f1 _ hm
      · exact fall_lt _ _ f2 _ hm
    exact ⟨ev y, hm, hh.1, (L1 _ he).1 hh.2.1, (L2 _ he).1 hh.2.2⟩
end Go.Proofs.Ytmfffeoodlmnbaa.Pl
