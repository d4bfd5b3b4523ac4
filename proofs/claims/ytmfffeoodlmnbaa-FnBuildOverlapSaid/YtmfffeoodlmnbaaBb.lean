/- The builder's steps over a stack of intervals, the newest first. No condition beyond order and size. -/
import Derived.Test.YtmfffeoodlmnbaaBu
namespace Go.Proofs.Ytmfffeoodlmnbaa.Bb
set_option linter.unusedSimpArgs false
set_option linter.unusedVariables false
open Go.RowKit Go.Proofs.YtmfffeoodlmnbaaW.PrintWords Go.Proofs.YtmfffeoodlmnbaaW.PrintLast Go.Proofs.YtmfffeoodlmnbaaW.PrintMore Go.Proofs.Ytmfffeoodlmnbaa.Kit Go.Proofs.Ytmfffeoodlmnbaa.Sp Go.Proofs.Ytmfffeoodlmnbaa.Se Go.Proofs.Ytmfffeoodlmnbaa.In Go.Proofs.Ytmfffeoodlmnbaa.Iv Go.Proofs.Ytmfffeoodlmnbaa.Vp Go.Proofs.Ytmfffeoodlmnbaa.Ov Go.Proofs.Ytmfffeoodlmnbaa.Mi Go.Proofs.Ytmfffeoodlmnbaa.Mr Go.Proofs.Ytmfffeoodlmnbaa.Pj Go.Proofs.Ytmfffeoodlmnbaa.Bu
theorem set_last (acc : List S63) (z y : S63) : ((acc ++ [z]).set acc.length y) = acc ++ [y] := by
  induction acc with
  | nil => rfl
  | cons a acc ih => simp only [List.cons_append, List.length_cons, List.set_cons_succ, ih]
theorem getD_last (acc : List S63) (z : S63) : (acc ++ [z]).getD acc.length z63 = z := by
  rw [List.getD_eq_getElem?_getD, List.getElem?_append_right (Nat.le_refl _)]; simp
/-- the builder, read as a stack of intervals; o: something lives behind place q. -/
def BB (w0 : World) (g : Nat) (st : List Iv.Sp) (o : Bool) (q : Int) (N : Nat) (W : World) : Prop :=
  ∃ (v : Value) (acc : List S63) (p : Int), BS w0 g v acc p W ∧ acc.reverse.map sp = st ∧ acc.length ≤ N ∧ (o = false → p = 0) ∧ (o = true → p - 1 = q ∧ acc ≠ [])
/-- the builder after an event. -/
def stp (st : List Iv.Sp) (o k : Bool) (x : Int) : List Iv.Sp :=
  if k = true then (if o = true then (match st with | [] => [] | s :: st => (x + 1, s.2) :: st) else st)
  else (if o = true then (match st with | [] => [] | s :: st => (x, s.2) :: st) else (x, x + 1) :: st)
theorem kill (w0 : World) (g : Nat) (st : List Iv.Sp) (o : Bool) (q x : Int) (N : Nat) (W : World) (h : BB w0 g st o q N W) (hN : N ≤ 4000000) (hx : 0 ≤ x) (hq : o = true → x < q ∧ q ≤ 1099511627776) :
    Calls Try.prog 31 #[.pointer (some ⟨g, 0, none⟩), .int .i64 x] W fun e w' => e = .returned .nilIface ∧ BB w0 g (stp st o true x) false x N w' := by
  obtain ⟨v, acc, p, S, hst, hl, h0, h1⟩ := h
  cases o with
  | false =>
    have hp := h0 rfl
    subst hp
    refine (c31_a w0 g v acc x hx W S).mono ?_
    rintro e w' ⟨rfl, S'⟩
    exact ⟨rfl, v, acc, 0, S', hst, hl, (fun _ => rfl), (fun h => by cases h)⟩
  | true =>
    obtain ⟨hp, hne⟩ := h1 rfl
    obtain ⟨hlt, hq'⟩ := hq rfl
    obtain ⟨acc', z, rfl⟩ : ∃ a z, acc = a ++ [z] := ⟨acc.dropLast, acc.getLast hne, (List.dropLast_concat_getLast hne).symm⟩
    obtain ⟨b, cap, hv, _⟩ := Kd.R_form S.rt (by simp)
    subst hv
    have hn : (acc' ++ [z]).length = acc'.length + 1 := by simp
    rw [hn] at S
    refine (c31_b w0 g b (acc'.length + 1) cap (acc' ++ [z]) x p (x + 1) q hp rfl hx hlt (by omega) (acc'.length : Int) acc'.length rfl (by omega) (by omega) W S).mono ?_
    rintro e w' ⟨rfl, S'⟩
    rw [set_last, getD_last] at S'
    refine ⟨rfl, _, _, 0, S', ?_, (by simp at hl ⊢; omega), (fun _ => rfl), (fun h => by cases h)⟩
    rw [← hst]
    simp [stp, sp]
theorem live (w0 : World) (g : Nat) (st : List Iv.Sp) (o : Bool) (q x : Int) (N : Nat) (W : World) (h : BB w0 g st o q N W) (hN : N ≤ 3999999) (hx : 0 ≤ x) (hx' : x ≤ 1099511627776) (hq : o = true → x < q ∧ q ≤ 1099511627776) :
    Calls Try.prog 32 #[.pointer (some ⟨g, 0, none⟩), .int .i64 x] W fun e w' => e = .returned .nilIface ∧ BB w0 g (stp st o false x) true x (N + 1) w' := by
  obtain ⟨v, acc, p, S, hst, hl, h0, h1⟩ := h
  cases o with
  | false =>
    have hp := h0 rfl
    subst hp
    refine (c32_a w0 g v acc x (x + 1) rfl hx hx' (by omega) W S).mono ?_
    rintro e w' ⟨rfl, v', S'⟩
    refine ⟨rfl, v', _, x + 1, S', ?_, (by simp; omega), (fun h => by cases h), (fun _ => ⟨by omega, by simp⟩)⟩
    rw [← hst]
    simp [stp, sp]
  | true =>
    obtain ⟨hp, hne⟩ := h1 rfl
    obtain ⟨hlt, hq'⟩ := hq rfl
    obtain ⟨acc', z, rfl⟩ : ∃ a z, acc = a ++ [z] := ⟨acc.dropLast, acc.getLast hne, (List.dropLast_concat_getLast hne).symm⟩
    obtain ⟨b, cap, hv, _⟩ := Kd.R_form S.rt (by simp)
    subst hv
    have hn : (acc' ++ [z]).length = acc'.length + 1 := by simp
    rw [hn] at S
    refine (c32_b w0 g b (acc'.length + 1) cap (acc' ++ [z]) x p (x + 1) q hp rfl hx hlt (by omega) (acc'.length : Int) acc'.length rfl (by omega) (by omega) W S).mono ?_
    rintro e w' ⟨rfl, S'⟩
    rw [set_last, getD_last] at S'
    refine ⟨rfl, _, _, x + 1, S', ?_, (by simp at hl ⊢; omega), (fun h => by cases h), (fun _ => ⟨by omega, by simp⟩)⟩
    rw [← hst]
    simp [stp, sp]
end Go.Proofs.Ytmfffeoodlmnbaa.Bb
