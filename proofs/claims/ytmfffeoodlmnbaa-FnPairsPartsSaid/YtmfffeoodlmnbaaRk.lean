/- What a sequence that came in reads as: spans, events. No condition. -/
import Derived.Test.YtmfffeoodlmnbaaSp0
import Derived.Deep.Slices
import Derived.Deep.SlicePairs
import Derived.ChangeSame
import Derived.Lib.SmallJoins
namespace Go.Proofs.Ytmfffeoodlmnbaa.Rk
set_option linter.unusedSimpArgs false
open Go.ChangeShapes Go.WideShapes Go.Deep Go.RowKit Go.Proofs.Ytmfffeoodlmnbaa.Sp Go.Proofs.YtmfffeoodlmnbaaW.PrintWords Go.Proofs.YtmfffeoodlmnbaaW.PrintLast Go.Proofs.YtmfffeoodlmnbaaW.PrintMore
theorem row_spans {H : Type} {enc : TypeId × Value → H} {W : World} {spare : Nat → Bool} {a : Option Addr} {len cap : Nat} {d : DataW H} {p : List MemPlace} (h : DataW.Trod enc Try.prog W 0 spare true 22 (.slice a len cap) d p) :
    ∃ l : List S39, l.length = len ∧ len ≤ cap ∧ Kd.C k39 W a len l := by
  obtain ⟨fuel, hf⟩ := h
  rcases open_slice_pairs Try.underlying22 Try.underlying39 (by kernel_rfl) rfl rfl (by kernel_rfl) (by kernel_rfl) hf with ⟨hcs, _⟩ | ⟨x, n, c, m, fu, V0, V1, D0, D1, P0, P1, hcs, _, hl, hm, hmm, _, hx⟩
  · simp [Value.cells] at hcs
    obtain ⟨rfl, rfl, rfl⟩ := hcs
    exact ⟨[], rfl, Nat.le_refl _, ⟨rfl, by omega, fun h => by omega⟩⟩
  · simp [Value.cells] at hcs
    obtain ⟨rfl, rfl, rfl⟩ := hcs
    have hlm : len ≤ m := by rw [hmm]; split <;> omega
    have hi : ∀ i, i < len → ∃ z : S39, V0 i = .int .i64 z.f0 ∧ V1 i = .int .i64 z.f1 := fun i hi => by
      obtain ⟨_, _, t0, t1⟩ := hx i (by omega)
      obtain ⟨a0, e0, _, _⟩ := DataW.trod_int Try.underlying3 t0
      obtain ⟨a1, e1, _, _⟩ := DataW.trod_int Try.underlying3 t1
      simp at e0 e1
      exact ⟨⟨a0, a1⟩, e0, e1⟩
    have : Inhabited S39 := ⟨z39⟩
    obtain ⟨z, hz⟩ := choose_lt hi
    have hml : len ≤ 9223372036854775807 := by have : cap ≤ maxLen := hm; unfold maxLen at this; omega
    refine ⟨(List.range len).map z, by simp, hl, ⟨by simp, hml, fun _ => ⟨x, rfl, fun j q hj => ?_⟩⟩⟩
    have hjl : j < len := by have := (List.getElem?_eq_some_iff.1 hj).1; simpa using this
    have hq : q = z j := by rw [List.getElem?_map, List.getElem?_range hjl] at hj; simpa using hj.symm
    subst hq
    obtain ⟨c0, c1, _, _⟩ := hx j (by omega)
    rw [(hz j hjl).1] at c0
    rw [(hz j hjl).2] at c1
    refine ⟨_, rfl, k39_mk W (z j), fun i u hu => ?_⟩
    match i, hu with
    | 0, hu => simp at hu; subst hu; exact c0
    | 1, hu => simp at hu; subst hu; exact c1
end Go.Proofs.Ytmfffeoodlmnbaa.Rk
