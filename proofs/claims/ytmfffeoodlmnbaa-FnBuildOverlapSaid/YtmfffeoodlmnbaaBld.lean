/- The builder over events in falling order, plainly: what is built, where something lives. No program in sight; no condition beyond each lemma's own. -/
import Derived.Test.YtmfffeoodlmnbaaIv
namespace Go.Proofs.Ytmfffeoodlmnbaa.Iv
set_option autoImplicit false
set_option linter.unusedVariables false
abbrev Ev := Int × Bool

/-- the places that the rest of the events adds, behind an event at p that is a use if o. -/
def LiveR : Bool → Int → List Ev → Int → Prop
  | _, _, [], _ => False
  | o, p, e :: l, x => (o = true ∧ e.1 < x ∧ x < p) ∨ (e.2 = false ∧ x = e.1) ∨ LiveR (!e.2) e.1 l x
/-- in falling order, from below p. -/
def Fall : Int → List Ev → Prop
  | _, [] => True
  | p, e :: l => e.1 < p ∧ Fall e.1 l
/-- the builder: the newest interval first. -/
def bfold : List Sp → Bool → List Ev → List Sp
  | st, _, [] => st
  | st, o, e :: l =>
    if e.2 = true then
      if o = true then (match st with | [] => bfold [] false l | s :: st => bfold ((e.1 + 1, s.2) :: st) false l) else bfold st false l
    else
      if o = true then (match st with | [] => bfold [] true l | s :: st => bfold ((e.1, s.2) :: st) true l) else bfold ((e.1, e.1 + 1) :: st) true l

theorem fall_lt (l : List Ev) : ∀ p, Fall p l → ∀ e ∈ l, e.1 < p := by
  induction l with
  | nil => intro p _ e he; cases he
  | cons a l ih =>
    intro p h e he
    cases he with
    | head => exact h.1
    | tail _ he => have := ih _ h.2 e he; have := h.1; omega

theorem bfold_has (l : List Ev) : ∀ (st : List Sp) (o : Bool) (p : Int), Fall p l → (o = true → ∃ s st', st = s :: st' ∧ s.1 = p ∧ p < s.2) → ∀ x, hasL (bfold st o l) x ↔ hasL st x ∨ LiveR o p l x := by
  induction l with
  | nil => intro st o p _ _ x; simp [bfold, LiveR]
  | cons e l ih =>
    intro st o p hf ho x
    have hf1 := hf.1
    cases hk : e.2 with
    | true =>
      cases o with
      | false =>
        simp only [bfold, hk, LiveR]
        simp only [if_true, Bool.false_eq_true, if_false, Bool.not_true, false_and, false_or, Bool.true_eq_false]
        exact ih st false e.1 hf.2 (fun h => by cases h) x
      | true =>
        obtain ⟨s, st', rfl, hs, hlt⟩ := ho rfl
        simp only [bfold, hk, LiveR]
        simp only [if_true, Bool.not_true, true_and, false_and, false_or, Bool.true_eq_false]
        rw [ih _ false e.1 hf.2 (fun h => by cases h) x, hasL_cons, hasL_cons]
        have : has (e.1 + 1, s.2) x ↔ has s x ∨ (e.1 < x ∧ x < p) := by simp only [has]; omega
        rw [this]; grind
    | false =>
      cases o with
      | false =>
        simp only [bfold, hk, LiveR]
        simp only [Bool.false_eq_true, if_false, Bool.not_false, false_and, false_or, true_and]
        rw [ih _ true e.1 hf.2 (fun _ => ⟨_, _, rfl, rfl, by simp; omega⟩) x, hasL_cons]
        have : has (e.1, e.1 + 1) x ↔ x = e.1 := by simp only [has]; omega
        rw [this]; grind
      | true =>
        obtain ⟨s, st', rfl, hs, hlt⟩ := ho rfl
        simp only [bfold, hk, LiveR]
        simp only [Bool.false_eq_true, if_false, if_true, Bool.not_false, true_and]
        rw [ih _ true e.1 hf.2 (fun _ => ⟨_, _, rfl, rfl, by simp; omega⟩) x, hasL_cons, hasL_cons]
        have : has (e.1, s.2) x ↔ has s x ∨ (e.1 < x ∧ x < p) ∨ x = e.1 := by simp only [has]; omega
        rw [this]; grind

/-- within bounds. -/
def In (lo hi : Int) (l : List Sp) : Prop := ∀ s ∈ l, lo ≤ s.1 ∧ s.2 ≤ hi

theorem bfold_gap (l : List Ev) : ∀ (st : List Sp) (o : Bool) (p lo : Int), Fall p l → (∀ e ∈ l, lo < e.1) → lo < p →
    (o = false → Gap p st) → (o = true → ∃ s st', st = s :: st' ∧ s.1 = p ∧ Gap (p - 1) st) → Gap lo (bfold st o l) := by
  induction l with
  | nil =>
    intro st o p lo _ _ hp h0 h1
    cases o with
    | false => exact (h0 rfl).mono (by omega)
    | true => obtain ⟨s, st', rfl, hs, hg⟩ := h1 rfl; exact hg.mono (by omega)
  | cons e l ih =>
    intro st o p lo hf hlo hp h0 h1
    have hf1 := hf.1
    have he := hlo e (.head _)
    have hlo' : ∀ e' ∈ l, lo < e'.1 := fun e' h => hlo e' (.tail _ h)
    cases hk : e.2 with
    | true =>
      cases o with
      | false =>
        simp only [bfold, hk, if_true, Bool.false_eq_true, if_false]
        exact ih st false e.1 lo hf.2 hlo' he (fun _ => (h0 rfl).mono (by omega)) (fun h => by cases h)
      | true =>
        obtain ⟨s, st', rfl, hs, hg⟩ := h1 rfl
        simp only [bfold, hk, if_true]
        have := hg.2.1
        exact ih _ false e.1 lo hf.2 hlo' he (fun _ => ⟨by simp; omega, by simp; omega, hg.2.2⟩) (fun h => by cases h)
    | false =>
      cases o with
      | false =>
        simp only [bfold, hk, Bool.false_eq_true, if_false]
        exact ih _ true e.1 lo hf.2 hlo' he (fun h => by cases h) (fun _ => ⟨_, _, rfl, rfl, by simp; omega, by simp; omega, (h0 rfl).mono (by simp; omega)⟩)
      | true =>
        obtain ⟨s, st', rfl, hs, hg⟩ := h1 rfl
        simp only [bfold, hk, Bool.false_eq_true, if_false, if_true]
        have := hg.2.1
        exact ih _ true e.1 lo hf.2 hlo' he (fun h => by cases h) (fun _ => ⟨_, _, rfl, rfl, by simp; omega, by simp; omega, hg.2.2⟩)

theorem bfold_len (l : List Ev) : ∀ (st : List Sp) (o : Bool), (bfold st o l).length ≤ st.length + l.length := by
  induction l with
  | nil => intro st o; simp [bfold]
  | cons e l ih =>
    intro st o
    cases hk : e.2 <;> cases o <;> simp only [bfold, hk, if_true, Bool.false_eq_true, if_false]
    · have := ih ((e.1, e.1 + 1) :: st) true; simp at this ⊢; omega
    · cases st with
      | nil => have := ih [] true; simp at this ⊢; omega
      | cons s st => have := ih ((e.1, s.2) :: st) true; simp at this ⊢; omega
    · have := ih st false; simp; omega
    · cases st with
      | nil => have := ih [] false; simp at this ⊢; omega
      | cons s st => have := ih ((e.1 + 1, s.2) :: st) false; simp at this ⊢; omega

theorem bfold_hi (l : List Ev) : ∀ (st : List Sp) (o : Bool) (hi : Int), (∀ s ∈ st, s.2 ≤ hi) → (∀ e ∈ l, e.1 + 1 ≤ hi) → ∀ s ∈ bfold st o l, s.2 ≤ hi := by
  induction l with
  | nil => intro st o hi h _; exact h
  | cons e l ih =>
    intro st o hi h he
    have h1 := he e (.head _)
    have he' : ∀ e' ∈ l, e'.1 + 1 ≤ hi := fun e' h => he e' (.tail _ h)
    cases hk : e.2 <;> cases o <;> simp only [bfold, hk, if_true, Bool.false_eq_true, if_false]
    · exact ih _ _ hi (by intro s hs; cases hs with | head => exact h1 | tail _ hs => exact h s hs) he'
    · cases st with
      | nil => exact ih _ _ hi h he'
      | cons s st => exact ih _ _ hi (by intro t ht; cases ht with | head => exact h s (.head _) | tail _ ht => exact h t (.tail _ ht)) he'
    · exact ih _ _ hi h he'
    · cases st with
      | nil => exact ih _ _ hi h he'
      | cons s st => exact ih _ _ hi (by intro t ht; cases ht with | head => exact h s (.head _) | tail _ ht => exact h t (.tail _ ht)) he'

/-- what spec.Live says, n events standing at x or behind it. -/
def LiveAt (l : List Ev) (n : Nat) (x : Int) : Prop := ∃ e, 1 ≤ n ∧ l[n - 1]? = some e ∧ e.2 = false ∧ (n < l.length ∨ e.1 = x)
/-- n of the events, the first ones, stand at x or behind it. -/
def Behind (l : List Ev) (n : Nat) (x : Int) : Prop := n ≤ l.length ∧ (∀ e ∈ l.take n, x ≤ e.1) ∧ (∀ e ∈ l.drop n, e.1 < x)

theorem liveR_at (l : List Ev) : ∀ (o : Bool) (p : Int) (n : Nat) (x : Int), Fall p l → x < p → Behind l n x →
    (LiveR o p l x ↔ if n = 0 then (o = true ∧ l ≠ []) else LiveAt l n x) := by
  induction l with
  | nil =>
    intro o p n x _ _ hb
    have : n = 0 := by have := hb.1; simpa using this
    subst this
    simp [LiveR]
  | cons e l ih =>
    intro o p n x hf hx hb
    have hf1 := hf.1
    cases n with
    | zero =>
      have h1 := hb.2.2 e (by simp)
      simp only [if_true, LiveR]
      have hn : ¬ LiveR (!e.2) e.1 l x := by
        have : ∀ (l : List Ev) (o : Bool) (p : Int), Fall p l → p ≤ x → ¬ LiveR o p l x := by
          intro l
          induction l with
          | nil => intro o p _ _ h; exact h
          | cons a l ih =>
            intro o p hf hp h
            have := hf.1
            rcases h with h | h | h
            · omega
            · omega
            · exact ih _ _ hf.2 (by omega) h
        exact this l _ _ hf.2 (by omega)
      constructor
      · rintro (h | h | h)
        · exact ⟨h.1, by simp⟩
        · omega
        · exact absurd h hn
      · rintro ⟨h, _⟩; exact .inl ⟨h, by omega, by omega⟩
    | succ n =>
      have h1 := hb.2.1 e (by simp)
      have hb' : Behind l n x := ⟨by have := hb.1; simp at this; omega, fun a h => hb.2.1 a (by simp [h]), fun a h => hb.2.2 a (by simpa using h)⟩
      simp only [LiveR, Nat.succ_ne_zero, if_false]
      by_cases hx' : x = e.1
      · have hn0 : n = 0 := by
          cases n with
          | zero => rfl
          | succ n =>
            cases l with
            | nil => have := hb'.1; simp at this
            | cons a l => have := hb'.2.1 a (by simp); have := hf.2.1; omega
        subst hn0
        have hn : ¬ LiveR (!e.2) e.1 l x := by
          have : ∀ (l : List Ev) (o : Bool) (p : Int), Fall p l → p ≤ x → ¬ LiveR o p l x := by
            intro l
            induction l with
            | nil => intro o p _ _ h; exact h
            | cons a l ih =>
              intro o p hf hp h
              have := hf.1
              rcases h with h | h | h
              · omega
              · omega
              · exact ih _ _ hf.2 (by omega) h
          exact this l _ _ hf.2 (by omega)
        simp only [LiveAt]
        simp
        constructor
        · rintro (h | h | h)
          · omega
          · exact ⟨h.1, .inr hx'.symm⟩
          · exact absurd h hn
        · rintro ⟨h, _⟩; exact .inr (.inl ⟨h, hx'⟩)
      · have := ih (!e.2) e.1 n x hf.2 (by omega) hb'
        rw [this]
        have e1 : ¬ (o = true ∧ e.1 < x ∧ x < p) := by omega
        have e2 : ¬ (e.2 = false ∧ x = e.1) := fun h => hx' h.2
        simp only [e1, e2, false_or]
        cases n with
        | zero =>
          simp only [if_true, LiveAt]
          simp
          intro _
          cases l with
          | nil => simp; exact fun h => hx' h.symm
          | cons a l => simp
        | succ n =>
          simp only [Nat.succ_ne_zero, if_false, LiveAt]
          simp

/-- what is built: a place is in it exactly if it is live. -/
theorem build_live (l : List Ev) (n : Nat) (x p : Int) (hf : Fall p l) (hx : x < p) (hb : Behind l n x) : hasL (bfold [] false l) x ↔ LiveAt l n x := by
  rw [bfold_has l [] false p hf (fun h => by cases h) x, liveR_at l false p n x hf hx hb]
  by_cases h : n = 0
  · subst h; simp [hasL, LiveAt]
  · rw [if_neg h]; simp [hasL]

theorem liveAt_up (l : List Ev) (n : Nat) (x p : Int) (hf : Fall p l) (hx : x < p) (hb : Behind l n x) (h : LiveAt l n x) :
    ∃ e, e ∈ l ∧ e.2 = false ∧ x ≤ e.1 ∧ ∀ y, x ≤ y → y ≤ e.1 → hasL (bfold [] false l) y := by
  obtain ⟨e, hn, he, hk, hl⟩ := h
  have hlt : n - 1 < l.length := by
    rcases Nat.lt_or_ge (n - 1) l.length with h | h
    · exact h
    · rw [List.getElem?_eq_none h] at he; cases he
  have hmem : e ∈ l := List.mem_of_getElem? he
  have hme : e ∈ l.take n := by
    rw [List.mem_iff_getElem?]
    exact ⟨n - 1, by rw [List.getElem?_take]; simp [show n - 1 < n from by omega, he]⟩
  have hxe := hb.2.1 e hme
  refine ⟨e, hmem, hk, hxe, fun y hy hye => ?_⟩
  have hyp : y < p := by have := fall_lt l p hf e hmem; omega
  have srt : ∀ (l : List Ev) (p : Int), Fall p l → ∀ (i j : Nat) (a b : Ev), i < j → l[i]? = some a → l[j]? = some b → b.1 < a.1 := by
    intro l
    induction l with
    | nil => intro p _ i j a b _ h; simp at h
    | cons c l ih =>
      intro p hf i j a b hij hi hj
      obtain ⟨j, rfl⟩ : ∃ k, j = k + 1 := ⟨j - 1, by omega⟩
      simp at hj
      cases i with
      | zero => simp at hi; subst hi; exact fall_lt l _ hf.2 b (List.mem_of_getElem? hj)
      | succ i => simp at hi; exact ih _ hf.2 i j a b (by omega) hi hj
  have hb' : Behind l n y := by
    refine ⟨hb.1, fun a ha => ?_, fun a ha => ?_⟩
    · obtain ⟨i, hi⟩ := List.mem_iff_getElem?.1 ha
      rw [List.getElem?_take] at hi
      split at hi
      · rename_i hin
        by_cases e1 : i = n - 1
        · subst e1; rw [he] at hi; cases hi; exact hye
        · have := srt l p hf i (n - 1) a e (by omega) hi he; omega
      · cases hi
    · have := hb.2.2 a ha; omega
  rw [build_live l n y p hf hyp hb']
  refine ⟨e, hn, he, hk, ?_⟩
  rcases hl with hl | hl
  · exact .inl hl
  · by_cases e1 : n < l.length
    · exact .inl e1
    · right; omega

/-- two that are built have a place in common exactly if both are live at the place of a use. -/
theorem build_both (one two : List Ev) (p : Int) (hf : Fall p one) (hg : Fall p two) (N1 N2 : Int → Nat)
    (h1 : ∀ x, x < p → Behind one (N1 x) x) (h2 : ∀ x, x < p → Behind two (N2 x) x) :
    Both (bfold [] false one) (bfold [] false two) ↔ ∃ e, (e ∈ one ∨ e ∈ two) ∧ e.2 = false ∧ LiveAt one (N1 e.1) e.1 ∧ LiveAt two (N2 e.1) e.1 := by
  constructor
  · rintro ⟨x, ha, hb⟩
    have hx : x < p := by
      obtain ⟨s, hs, hsx⟩ := ha
      have : ∀ s ∈ bfold [] false one, s.2 ≤ p := bfold_hi one [] false p (by simp) (fun e he => by have := fall_lt one p hf e he; omega)
      have := this s hs
      have := hsx.2
      omega
    have la := (build_live one _ x p hf hx (h1 x hx)).1 ha
    have lb := (build_live two _ x p hg hx (h2 x hx)).1 hb
    obtain ⟨e, he, hk, hxe, ua⟩ := liveAt_up one _ x p hf hx (h1 x hx) la
    obtain ⟨f, hf', hk', hxf, ub⟩ := liveAt_up two _ x p hg hx (h2 x hx) lb
    have hep := fall_lt one p hf e he
    have hfp := fall_lt two p hg f hf'
    by_cases hle : e.1 ≤ f.1
    · exact ⟨e, .inl he, hk, (build_live one _ _ p hf hep (h1 _ hep)).1 (ua _ hxe (by omega)), (build_live two _ _ p hg hep (h2 _ hep)).1 (ub _ hxe hle)⟩
    · exact ⟨f, .inr hf', hk', (build_live one _ _ p hf hfp (h1 _ hfp)).1 (ua _ hxf (by omega)), (build_live two _ _ p hg hfp (h2 _ hfp)).1 (ub _ hxf (by omega))⟩
  · rintro ⟨e, hm, _, la, lb⟩
    have hep : e.1 < p := by
      rcases hm with h | h
      · exact fall_lt one p hf e h
      · exact fall_lt two p hg e h
    exact ⟨e.1, (build_live one _ _ p hf hep (h1 _ hep)).2 la, (build_live two _ _ p hg hep (h2 _ hep)).2 lb⟩
end Go.Proofs.Ytmfffeoodlmnbaa.Iv
