/- Sequences of intervals, plainly: the pairs of two, what overlaps, what is merged. No program in sight; no condition beyond each lemma's own. -/
namespace Go.Proofs.Ytmfffeoodlmnbaa.Iv
set_option autoImplicit false
abbrev Sp := Int × Int

def has (s : Sp) (x : Int) : Prop := s.1 ≤ x ∧ x < s.2
def hasL (l : List Sp) (x : Int) : Prop := ∃ s, s ∈ l ∧ has s x
/-- sorted by the start, each with places. -/
def Srt : Int → List Sp → Prop
  | _, [] => True
  | lo, s :: l => lo ≤ s.1 ∧ s.1 < s.2 ∧ Srt s.1 l
/-- in order, a place between two of them at least. -/
def Gap : Int → List Sp → Prop
  | _, [] => True
  | lo, s :: l => lo < s.1 ∧ s.1 < s.2 ∧ Gap s.2 l

theorem Gap.mono {lo lo' : Int} {l : List Sp} (h : Gap lo l) (hl : lo' ≤ lo) : Gap lo' l := by
  cases l with
  | nil => trivial
  | cons s l => exact ⟨by have := h.1; omega, h.2⟩
theorem Srt.mono {lo lo' : Int} {l : List Sp} (h : Srt lo l) (hl : lo' ≤ lo) : Srt lo' l := by
  cases l with
  | nil => trivial
  | cons s l => exact ⟨by have := h.1; omega, h.2⟩
theorem Gap.srt {l : List Sp} : ∀ {lo : Int}, Gap lo l → Srt (lo + 1) l := by
  induction l with
  | nil => intro _ _; trivial
  | cons s l ih => intro lo h; exact ⟨by have := h.1; omega, h.2.1, (ih h.2.2).mono (by have := h.2.1; omega)⟩
theorem Gap.lt {l : List Sp} : ∀ {lo : Int}, Gap lo l → ∀ s ∈ l, lo < s.1 ∧ s.1 < s.2 := by
  induction l with
  | nil => intro _ _ s hs; cases hs
  | cons t l ih =>
    intro lo h s hs
    cases hs with
    | head => exact ⟨h.1, h.2.1⟩
    | tail _ hs => have := ih h.2.2 s hs; have := h.1; have := h.2.1; omega

def pairs : List Sp → List Sp → List (Sp × Nat)
  | [], b => b.map (fun s => (s, 1))
  | s :: a, [] => (s :: a).map (fun s => (s, 0))
  | s :: a, t :: b => if s.1 ≤ t.1 then (s, 0) :: pairs a (t :: b) else (t, 1) :: pairs (s :: a) b
termination_by a b => a.length + b.length
decreasing_by all_goals (simp; try omega)

theorem srt_map {l : List Sp} (i : Nat) : (l.map (fun s => (s, i))).map (·.1) = l := by simp [Function.comp_def]

theorem pairs_srt (a b : List Sp) : ∀ lo, Srt lo a → Srt lo b → Srt lo ((pairs a b).map (·.1)) := by
  induction a, b using pairs.induct with
  | case1 b => intro lo _ hb; simpa [pairs, Function.comp_def] using hb
  | case2 s a => intro lo ha _; simpa [pairs, Function.comp_def] using ha
  | case3 s a t b h ih => intro lo ha hb; simp only [pairs, if_pos h, List.map_cons]; exact ⟨ha.1, ha.2.1, ih _ ha.2.2 ⟨h, hb.2⟩⟩
  | case4 s a t b h ih => intro lo ha hb; simp only [pairs, if_neg h, List.map_cons]; exact ⟨hb.1, hb.2.1, ih _ ⟨by omega, ha.2⟩ hb.2.2⟩

theorem pairs_mem (a b : List Sp) (s : Sp) : s ∈ (pairs a b).map (·.1) ↔ s ∈ a ∨ s ∈ b := by
  induction a, b using pairs.induct with
  | case1 b => simp [pairs, Function.comp_def]
  | case2 t a => simp [pairs, Function.comp_def]
  | case3 u a t b h ih => simp only [pairs, if_pos h, List.map_cons, List.mem_cons] at ih ⊢; rw [ih]; grind
  | case4 u a t b h ih => simp only [pairs, if_neg h, List.map_cons, List.mem_cons] at ih ⊢; rw [ih]; grind

def ov (s t : Sp) : Bool := decide (min s.2 t.2 - max s.1 t.1 > 0)
def adj (s t : Sp) : Bool := s.2 == t.1 || t.2 == s.1
def touch (s t : Sp) : Bool := ov s t || adj s t
theorem touch_iff (s t : Sp) (hs : s.1 < s.2) (ht : t.1 < t.2) (h : s.1 ≤ t.1) : touch s t = true ↔ t.1 ≤ s.2 := by
  simp only [touch, ov, adj, Bool.or_eq_true, decide_eq_true_eq, beq_iff_eq]
  omega
def join (s t : Sp) : Sp := (min s.1 t.1, max s.2 t.2)

def fold : Sp → List Sp → List Sp
  | c, [] => [c]
  | c, s :: l => if touch c s then fold (join c s) l else c :: fold s l

theorem fold_spec (l : List Sp) : ∀ (c : Sp) (lo : Int), lo < c.1 → c.1 < c.2 → Srt c.1 l → Gap lo (fold c l) ∧ ∀ x, hasL (fold c l) x ↔ hasL (c :: l) x := by
  induction l with
  | nil => intro c lo h1 h2 _; exact ⟨⟨h1, h2, trivial⟩, fun x => Iff.rfl⟩
  | cons s l ih =>
    intro c lo h1 h2 hs
    have ht := touch_iff c s h2 hs.2.1 hs.1
    by_cases h : touch c s = true
    · have hle := ht.1 h
      simp only [fold, h, if_true]
      have hj : (join c s).1 = c.1 := by simp only [join]; have := hs.1; omega
      have hj2 : (join c s).2 = max c.2 s.2 := rfl
      obtain ⟨g, e⟩ := ih (join c s) lo (by omega) (by omega) (hs.2.2.mono (by rw [hj]; exact hs.1))
      refine ⟨g, fun x => ?_⟩
      rw [e x]
      have hsp := hs.1
      have hsp2 := hs.2.1
      have key : has (join c s) x ↔ has c x ∨ has s x := by
        simp only [has]; omega
      simp only [hasL, List.mem_cons, exists_eq_or_imp, key]
      grind
    · have hgt : c.2 < s.1 := by
        have : ¬ s.1 ≤ c.2 := fun hh => h (ht.2 hh)
        omega
      simp only [fold, h]
      obtain ⟨g, e⟩ := ih s c.2 hgt hs.2.1 hs.2.2
      refine ⟨⟨h1, h2, g⟩, fun x => ?_⟩
      have e' := e x
      simp only [Bool.false_eq_true, if_false, hasL, List.mem_cons, exists_eq_or_imp] at e' ⊢
      rw [e']

def mergeL (a b : List Sp) : List Sp :=
  if a = [] then b else if b = [] then a else
  match (pairs a b).map (·.1) with
  | [] => []
  | c :: l => fold c l

theorem mergeL_spec (a b : List Sp) (lo : Int) (ha : Gap lo a) (hb : Gap lo b) : Gap lo (mergeL a b) ∧ ∀ x, hasL (mergeL a b) x ↔ hasL a x ∨ hasL b x := by
  unfold mergeL
  by_cases h1 : a = []
  · subst h1; rw [if_pos rfl]; exact ⟨hb, fun x => by simp [hasL]⟩
  · rw [if_neg h1]
    by_cases h2 : b = []
    · subst h2; rw [if_pos rfl]; exact ⟨ha, fun x => by simp [hasL]⟩
    · rw [if_neg h2]
      have hs := pairs_srt a b (lo + 1) ha.srt hb.srt
      have hm := pairs_mem a b
      generalize (pairs a b).map (·.1) = p at hs hm
      cases p with
      | nil => refine ⟨trivial, fun x => ?_⟩; simp at hm; simp only [hasL]; grind
      | cons c l =>
        obtain ⟨g, e⟩ := fold_spec l c lo (by have := hs.1; omega) hs.2.1 hs.2.2
        refine ⟨g, fun x => ?_⟩
        rw [e x]
        simp only [hasL, hm]
        grind

theorem hasL_lo {l : List Sp} {lo : Int} (h : Gap lo l) {x : Int} (hx : hasL l x) : lo < x := by
  obtain ⟨s, hs, hx⟩ := hx
  have := h.lt s hs
  have := hx.1
  omega

theorem canon (l : List Sp) : ∀ (m : List Sp) (lo lo' : Int), Gap lo l → Gap lo' m → (∀ x, hasL l x ↔ hasL m x) → l = m := by
  induction l with
  | nil =>
    intro m lo lo' _ hm h
    cases m with
    | nil => rfl
    | cons t m => exact absurd ((h t.1).2 ⟨t, .head _, by simp only [has]; have := hm.2.1; omega⟩) (by simp [hasL])
  | cons s l ih =>
    intro m lo lo' hl hm h
    cases m with
    | nil => exact absurd ((h s.1).1 ⟨s, .head _, by simp only [has]; have := hl.2.1; omega⟩) (by simp [hasL])
    | cons t m =>
      have A : ∀ x, hasL (s :: l) x ↔ has s x ∨ hasL l x := fun x => by simp [hasL]
      have B : ∀ x, hasL (t :: m) x ↔ has t x ∨ hasL m x := fun x => by simp [hasL]
      have h' : ∀ x, has s x ∨ hasL l x ↔ has t x ∨ hasL m x := fun x => by rw [← A, ← B]; exact h x
      have L : ∀ x, hasL l x → s.2 < x := fun x hx => hasL_lo hl.2.2 hx
      have M : ∀ x, hasL m x → t.2 < x := fun x hx => hasL_lo hm.2.2 hx
      have s0 := hl.2.1
      have t0 := hm.2.1
      have e1 : s.1 = t.1 := by
        have p := (h' s.1).1 (.inl ⟨by omega, by omega⟩)
        have q := (h' t.1).2 (.inl ⟨by omega, by omega⟩)
        have p' : t.1 ≤ s.1 := by rcases p with p | p
                                  · exact p.1
                                  · have := M _ p; omega
        have q' : s.1 ≤ t.1 := by rcases q with q | q
                                  · exact q.1
                                  · have := L _ q; omega
        omega
      have e2 : s.2 = t.2 := by
        have key : ∀ (s t : Sp) (l m : List Sp), s.1 < s.2 → t.1 < t.2 → s.1 = t.1 → (∀ x, has s x ∨ hasL l x → has t x ∨ hasL m x) → (∀ x, hasL m x → t.2 < x) → s.2 ≤ t.2 := by
          intro s t l m s0 t0 e k M
          by_cases hlt : s.2 ≤ t.2
          · exact hlt
          · have := k t.2 (.inl ⟨by omega, by omega⟩)
            rcases this with p | p
            · have := p.2; omega
            · have := M _ p; omega
        have a1 := key s t l m s0 t0 e1 (fun x => (h' x).1) M
        have a2 := key t s m l t0 s0 e1.symm (fun x => (h' x).2) L
        omega
      have est : s = t := Prod.ext e1 e2
      subst est
      rw [ih m s.2 s.2 hl.2.2 hm.2.2]
      intro x
      constructor
      · intro hx
        have := L x hx
        rcases (h' x).1 (.inr hx) with p | p
        · have := p.2; omega
        · exact p
      · intro hx
        have := M x hx
        rcases (h' x).2 (.inr hx) with p | p
        · have := p.2; omega
        · exact p

theorem mergeL_comm (a b : List Sp) (lo : Int) (ha : Gap lo a) (hb : Gap lo b) : mergeL a b = mergeL b a := by
  have h1 := mergeL_spec a b lo ha hb
  have h2 := mergeL_spec b a lo hb ha
  exact canon _ _ lo lo h1.1 h2.1 (fun x => by rw [h1.2, h2.2]; exact Or.comm)

theorem mergeL_assoc (a b c : List Sp) (lo : Int) (ha : Gap lo a) (hb : Gap lo b) (hc : Gap lo c) : mergeL (mergeL a b) c = mergeL a (mergeL b c) := by
  have h1 := mergeL_spec a b lo ha hb
  have h2 := mergeL_spec b c lo hb hc
  have h3 := mergeL_spec _ c lo h1.1 hc
  have h4 := mergeL_spec a _ lo ha h2.1
  exact canon _ _ lo lo h3.1 h4.1 (fun x => by rw [h3.2, h4.2, h1.2, h2.2, or_assoc])

/-- the walk of Overlaps behind the first one. -/
def ovFold : Sp × Nat → List (Sp × Nat) → Bool
  | _, [] => false
  | f, s :: l => if f.2 = s.2 then ovFold s l else if ov f.1 s.1 then true else ovFold s l

theorem ov_iff (s t : Sp) (hs : s.1 < s.2) (ht : t.1 < t.2) : ov s t = true ↔ ∃ x, has s x ∧ has t x := by
  simp only [ov, decide_eq_true_eq]
  constructor
  · intro h; exact ⟨max s.1 t.1, by simp only [has]; omega, by simp only [has]; omega⟩
  · rintro ⟨x, h1, h2⟩; simp only [has] at h1 h2; omega

theorem hasL_nil (x : Int) : ¬ hasL [] x := by simp [hasL]
theorem hasL_cons (s : Sp) (l : List Sp) (x : Int) : hasL (s :: l) x ↔ has s x ∨ hasL l x := by simp [hasL]

def Both (a b : List Sp) : Prop := ∃ x, hasL a x ∧ hasL b x
theorem both_comm (a b : List Sp) : Both a b ↔ Both b a := ⟨fun ⟨x, h1, h2⟩ => ⟨x, h2, h1⟩, fun ⟨x, h1, h2⟩ => ⟨x, h2, h1⟩⟩
theorem both_nil (a : List Sp) : ¬ Both a [] := fun ⟨_, _, h⟩ => hasL_nil _ h
/-- an interval that ends ahead of all of another sequence has no part in it. -/
theorem both_drop (s : Sp) (a b : List Sp) (lo : Int) (hb : Gap lo b) (h : s.2 ≤ lo + 1) : Both (s :: a) b ↔ Both a b := by
  constructor
  · rintro ⟨x, h1, h2⟩
    rcases (hasL_cons _ _ _).1 h1 with h1 | h1
    · have := hasL_lo hb h2; have := h1.2; omega
    · exact ⟨x, h1, h2⟩
  · rintro ⟨x, h1, h2⟩; exact ⟨x, (hasL_cons _ _ _).2 (.inr h1), h2⟩
theorem both_ov (s t : Sp) (a b : List Sp) (hs : s.1 < s.2) (ht : t.1 < t.2) (h : ov s t = true) : Both (s :: a) (t :: b) := by
  obtain ⟨x, h1, h2⟩ := (ov_iff s t hs ht).1 h
  exact ⟨x, (hasL_cons _ _ _).2 (.inl h1), (hasL_cons _ _ _).2 (.inl h2)⟩
theorem ov_comm (s t : Sp) : ov s t = ov t s := by simp only [ov]; congr 2; omega

theorem ovFold_same (_s : Sp) (i : Nat) (l : List Sp) : ∀ s, ovFold (s, i) (l.map (fun s => (s, i))) = false := by
  induction l with
  | nil => intro s; rfl
  | cons t l ih => intro s; simp [ovFold, ih]

theorem ovFold_iff (a b : List Sp) :
    (∀ s : Sp, s.1 < s.2 → Gap s.2 a → Gap (s.1 - 1) b → (ovFold (s, 0) (pairs a b) = true ↔ Both (s :: a) b)) ∧
    (∀ t : Sp, t.1 < t.2 → Gap t.2 b → Gap (t.1 - 1) a → (ovFold (t, 1) (pairs a b) = true ↔ Both a (t :: b))) := by
  induction a, b using pairs.induct with
  | case1 b =>
    constructor
    · intro s hs _ hb
      cases b with
      | nil => simp [pairs, ovFold, both_nil]
      | cons t b =>
        simp only [pairs, List.map_cons, ovFold]
        rw [if_neg (by decide)]
        by_cases h : ov s t = true
        · rw [if_pos h]; simp [both_ov s t [] b hs hb.2.1 h]
        · rw [if_neg h, ovFold_same t]
          simp only [Bool.false_eq_true, false_iff]
          have hb1 := hb.1
          have hb2 := hb.2.1
          have : s.2 ≤ t.1 := by simp only [ov, decide_eq_true_eq] at h; omega
          rw [both_drop s [] (t :: b) (t.1 - 1) ⟨by omega, hb.2⟩ (by omega), both_comm]
          exact both_nil _
    · intro t _ _ _
      simp only [pairs]
      rw [ovFold_same t]
      simp only [Bool.false_eq_true, false_iff, both_comm []]
      exact both_nil _
  | case2 u a =>
    constructor
    · intro s _ _ _
      simp only [pairs]
      rw [ovFold_same s]
      simp only [Bool.false_eq_true, false_iff]
      exact both_nil _
    · intro t ht _ ha
      simp only [pairs, List.map_cons, ovFold]
      rw [if_neg (by decide)]
      have ha1 := ha.1
      have ha2 := ha.2.1
      by_cases h : ov t u = true
      · rw [if_pos h]; simp [both_ov u t a [] ha2 ht (by rw [ov_comm]; exact h)]
      · rw [if_neg h, ovFold_same u]
        simp only [Bool.false_eq_true, false_iff]
        have : t.2 ≤ u.1 := by simp only [ov, decide_eq_true_eq] at h; omega
        rw [both_comm, both_drop t [] (u :: a) (u.1 - 1) ⟨by omega, ha.2⟩ (by omega), both_comm]
        exact both_nil _
  | case3 u a t b h ih =>
    simp only [pairs, if_pos h, ovFold]
    constructor
    · intro s hs ha hb
      rw [if_pos trivial, ih.1 u ha.2.1 ha.2.2 ⟨by omega, hb.2⟩, both_drop s (u :: a) (t :: b) (t.1 - 1) ⟨by omega, hb.2⟩ (by have := ha.1; omega)]
    · intro v hv hb ha
      rw [if_neg (by decide)]
      have ha1 := ha.1
      have ha2 := ha.2.1
      have hb1 := hb.1
      by_cases ho : ov v u = true
      · rw [if_pos ho]; simp [both_ov u v a (t :: b) ha2 hv (by rw [ov_comm]; exact ho)]
      · rw [if_neg ho]
        have : v.2 ≤ u.1 := by simp only [ov, decide_eq_true_eq] at ho; omega
        rw [ih.1 u ha2 ha.2.2 ⟨by omega, hb.2⟩, both_comm (u :: a) (v :: t :: b), both_drop v (t :: b) (u :: a) (u.1 - 1) ⟨by omega, ha.2⟩ (by omega), both_comm]
  | case4 u a t b h ih =>
    simp only [pairs, if_neg h, ovFold]
    constructor
    · intro s hs ha hb
      rw [if_neg (by decide)]
      have hb1 := hb.1
      have hb2 := hb.2.1
      have ha1 := ha.1
      by_cases ho : ov s t = true
      · rw [if_pos ho]; simp [both_ov s t (u :: a) b hs hb2 ho]
      · rw [if_neg ho]
        have : s.2 ≤ t.1 := by simp only [ov, decide_eq_true_eq] at ho; omega
        rw [ih.2 t hb2 hb.2.2 ⟨by omega, ha.2⟩, both_drop s (u :: a) (t :: b) (t.1 - 1) ⟨by omega, hb.2⟩ (by omega)]
    · intro v hv hb ha
      rw [if_pos trivial, ih.2 t hb.2.1 hb.2.2 ⟨by omega, ha.2⟩, both_comm (u :: a) (v :: t :: b), both_drop v (t :: b) (u :: a) (u.1 - 1) ⟨by omega, ha.2⟩ (by have := hb.1; omega), both_comm]

/-- what Overlaps says of two sequences. -/
def setsOv (a b : List Sp) : Bool :=
  match pairs a b with
  | [] => false
  | c :: l => ovFold c l

theorem setsOv_iff (a b : List Sp) (lo : Int) (ha : Gap lo a) (hb : Gap lo b) : setsOv a b = true ↔ Both a b := by
  unfold setsOv
  cases a with
  | nil =>
    rw [both_comm]
    simp only [pairs]
    cases b with
    | nil => simp [both_nil]
    | cons t b => simp only [List.map_cons]; rw [ovFold_same t]; simp [both_nil]
  | cons s a =>
    cases b with
    | nil => simp only [pairs, List.map_cons]; rw [ovFold_same s]; simp [both_nil]
    | cons t b =>
      simp only [pairs]
      by_cases h : s.1 ≤ t.1
      · rw [if_pos h]; exact (ovFold_iff a (t :: b)).1 s ha.2.1 ha.2.2 ⟨by omega, hb.2⟩
      · rw [if_neg h]; exact (ovFold_iff (s :: a) b).2 t hb.2.1 hb.2.2 ⟨by omega, ha.2⟩
end Go.Proofs.Ytmfffeoodlmnbaa.Iv
