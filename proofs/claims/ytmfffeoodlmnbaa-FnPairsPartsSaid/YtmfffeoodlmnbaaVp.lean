/- What the visitor walks through, plainly: sel's picks are the pairs of what is left of two sequences. No condition. -/
import Derived.Test.YtmfffeoodlmnbaaIn
import Derived.Test.YtmfffeoodlmnbaaIv
namespace Go.Proofs.Ytmfffeoodlmnbaa.Vp
set_option linter.unusedSimpArgs false
open Go.RowKit Go.Proofs.Ytmfffeoodlmnbaa.Sp Go.Proofs.Ytmfffeoodlmnbaa.Se Go.Proofs.Ytmfffeoodlmnbaa.In Go.Proofs.Ytmfffeoodlmnbaa.Iv Go.Proofs.YtmfffeoodlmnbaaW.PrintWords Go.Proofs.YtmfffeoodlmnbaaW.PrintLast Go.Proofs.YtmfffeoodlmnbaaW.PrintMore
def sp (x : S63) : Iv.Sp := (x.f0, x.f1)
def PL (l1 l2 : List S63) (i j : Nat) : List (Iv.Sp × Nat) := pairs ((l1.drop i).map sp) ((l2.drop j).map sp)
theorem rd_get (l : List S63) (i : Nat) (h : i < l.length) : rd_T63 l (i : Int) = l[i] := by
  unfold rd_T63
  rw [Int.toNat_natCast, List.getD, List.getElem?_eq_getElem h]; rfl
theorem drop_cons (l : List S63) (i : Nat) (h : i < l.length) : (l.drop i).map sp = sp l[i] :: (l.drop (i + 1)).map sp := by
  rw [List.drop_eq_getElem_cons h, List.map_cons]
theorem drop_nil (l : List S63) (i : Nat) (h : l.length ≤ i) : (l.drop i).map sp = [] := by rw [List.drop_eq_nil_of_le h]; rfl
theorem mem_sp (l : List S63) (i : Nat) (h : i < l.length) : sp l[i] ∈ l.map sp := List.mem_map.2 ⟨l[i], List.getElem_mem h, rfl⟩
theorem sv_step (l1 l2 : List S63) (i j : Nat) (hi : i ≤ l1.length) (hj : j ≤ l2.length) :
    (l1.length ≤ i ∧ l2.length ≤ j ∧ sv l1 l2 i j = (0, 0, -1) ∧ PL l1 l2 i j = []) ∨
    (∃ q : Iv.Sp, i < l1.length ∧ q ∈ l1.map sp ∧ sv l1 l2 i j = (q.1, q.2, 0) ∧ PL l1 l2 i j = (q, 0) :: PL l1 l2 (i + 1) j) ∨
    (∃ q : Iv.Sp, j < l2.length ∧ q ∈ l2.map sp ∧ sv l1 l2 i j = (q.1, q.2, 1) ∧ PL l1 l2 i j = (q, 1) :: PL l1 l2 i (j + 1)) := by
  unfold sv PL
  by_cases h1 : l1.length ≤ i
  · by_cases h2 : l2.length ≤ j
    · exact .inl ⟨h1, h2, by rw [if_pos (by omega), if_pos (by omega)], by rw [drop_nil l1 i h1, drop_nil l2 j h2]; simp [pairs]⟩
    · refine .inr (.inr ⟨sp l2[j], by omega, mem_sp l2 j (by omega), ?_, ?_⟩)
      · rw [if_pos (by omega), if_neg (by omega), rd_get l2 j (by omega)]; rfl
      · rw [drop_nil l1 i h1, drop_cons l2 j (by omega)]; simp [pairs]
  · by_cases h2 : l2.length ≤ j
    · refine .inr (.inl ⟨sp l1[i], by omega, mem_sp l1 i (by omega), ?_, ?_⟩)
      · rw [if_neg (by omega), if_pos (by omega), rd_get l1 i (by omega)]; rfl
      · rw [drop_nil l2 j h2, drop_cons l1 i (by omega)]
        cases (l1.drop (i + 1)).map sp <;> simp [pairs]
    · rw [if_neg (by omega), if_neg (by omega), rd_get l1 i (by omega), rd_get l2 j (by omega)]
      by_cases h3 : l1[i].f0 ≤ l2[j].f0
      · refine .inr (.inl ⟨sp l1[i], by omega, mem_sp l1 i (by omega), ?_, ?_⟩)
        · rw [if_pos h3]; rfl
        · rw [drop_cons l1 i (by omega), drop_cons l2 j (by omega), pairs, if_pos (show (sp l1[i]).1 ≤ (sp l2[j]).1 from h3)]
      · refine .inr (.inr ⟨sp l2[j], by omega, mem_sp l2 j (by omega), ?_, ?_⟩)
        · rw [if_neg h3]; rfl
        · rw [drop_cons l1 i (by omega), drop_cons l2 j (by omega), pairs, if_neg (show ¬ (sp l1[i]).1 ≤ (sp l2[j]).1 from h3)]
def nI (k i : Nat) : Nat := if k = 0 then i + 1 else i
def nJ (k j : Nat) : Nat := if k = 0 then j else j + 1
theorem c42n (g n1 n2 : Nat) (l1 l2 : List S63) (hn1 : l1.length = n1) (hn2 : l2.length = n2) (A1 : Option Addr) (c1 : Nat) (A2 : Option Addr) (c2 : Nat) (w : World) (hp : w.heap[g]? = some (.cells (pvRow 0 0 0 0 0 none 0 0 none 0 0) 72 (0, 0)))
    (hc1 : ∀ W, Only g w W → Kd.C k63 W A1 n1 l1) (hc2 : ∀ W, Only g w W → Kd.C k63 W A2 n2 l2) :
    Calls Try.prog 42 #[.pointer (some ⟨g, 0, none⟩), .slice A1 n1 c1, .slice A2 n2 c2] w fun e w' => e = .returned (.agg (vv (sv l1 l2 0 0))) ∧
      w'.heap[g]? = some (.cells (pvRow (sv l1 l2 0 0).1 (sv l1 l2 0 0).2.1 (sv l1 l2 0 0).2.2 0 0 A1 n1 c1 A2 n2 c2) 72 (0, 0)) ∧ Only g w w' := by
  subst hn1 hn2
  exact c42 g l1 l2 A1 c1 A2 c2 w hp hc1 hc2
theorem c43n (g n1 n2 : Nat) (a b : Int) (k i j : Nat) (l1 l2 : List S63) (hn1 : l1.length = n1) (hn2 : l2.length = n2) (hl1 : n1 ≤ 4000000) (hl2 : n2 ≤ 4000000) (hk : k ≤ 1) (hi : i ≤ n1) (hj : j ≤ n2) (A1 : Option Addr) (c1 : Nat) (A2 : Option Addr) (c2 : Nat) (w : World)
    (hp : w.heap[g]? = some (.cells (pvRow a b k i j A1 n1 c1 A2 n2 c2) 72 (0, 0)))
    (hc1 : ∀ W, Only g w W → Kd.C k63 W A1 n1 l1) (hc2 : ∀ W, Only g w W → Kd.C k63 W A2 n2 l2) (s : Int × Int × Int) (hs : sv l1 l2 (nI k i : Nat) (nJ k j : Nat) = s) :
    Calls Try.prog 43 #[.pointer (some ⟨g, 0, none⟩)] w fun e w' => e = .returned (.agg (vv s)) ∧
      w'.heap[g]? = some (.cells (pvRow s.1 s.2.1 s.2.2 (nI k i : Nat) (nJ k j : Nat) A1 n1 c1 A2 n2 c2) 72 (0, 0)) ∧ Only g w w' := by
  subst hn1 hn2 hs
  rcases (by omega : k = 0 ∨ k = 1) with rfl | rfl
  · exact c43_0 g a b i j l1 l2 A1 c1 A2 c2 w hp hc1 hc2 (by omega) (by omega) (by omega) (by omega)
  · exact c43_1 g a b i j l1 l2 A1 c1 A2 c2 w hp hc1 hc2 (by omega) (by omega) (by omega) (by omega)
/-- the places between which the statements speak. -/
def Bd (l : List S63) : Prop := ∀ q ∈ l.map sp, -2305843009213693952 ≤ q.1 ∧ q.1 ≤ 2305843009213693952 ∧ -2305843009213693952 ≤ q.2 ∧ q.2 ≤ 2305843009213693952
theorem over_f (s t : Iv.Sp) (hs : -2305843009213693952 ≤ s.1 ∧ s.1 ≤ 2305843009213693952 ∧ -2305843009213693952 ≤ s.2 ∧ s.2 ≤ 2305843009213693952) (ht : -2305843009213693952 ≤ t.1 ∧ t.1 ≤ 2305843009213693952 ∧ -2305843009213693952 ≤ t.2 ∧ t.2 ≤ 2305843009213693952) :
    intervals_Interval_Overlaps.f s.1 s.2 t.1 t.2 = some (ov s t) := by
  unfold intervals_Interval_Overlaps.f intervals_imin.f intervals_imax.f ov
  have e1 : (if s.2 < t.2 then some s.2 else some t.2) = some (min s.2 t.2) := by split <;> (refine congrArg some ?_; omega)
  have e2 : (if s.1 > t.1 then some s.1 else some t.1) = some (max s.1 t.1) := by split <;> (refine congrArg some ?_; omega)
  rw [e1, e2, Option.bind_some, Option.bind_some]
  have : wrap64 (min s.2 t.2 - max s.1 t.1) = min s.2 t.2 - max s.1 t.1 := by unfold wrap64; omega
  rw [this]
end Go.Proofs.Ytmfffeoodlmnbaa.Vp
