/- laws.FnSetsOverlapOne returns true, whatever the spans. No condition. Its walk: C6. -/
import Derived.Test.YtmfffeoodlmnbaaRows
import Derived.Test.YtmfffeoodlmnbaaC6
import Derived.WalkKit
import Derived.ProofKit
import Derived.OpenShut
import Derived.ShutString
import Derived.ChangeOld
import Derived.Below
import Derived.SizedLaws
import Derived.Lib.SmallJoins
namespace Go.Proofs.Ytmfffeoodlmnbaa.fnSetsOverlapOneRow
open Go.ChangeShapes Go.WideShapes Go.ChangeAt Go.RowKit Go.Joins
theorem own : ownKnob Try.prog.godebug = none := by kernel_rfl
theorem cellsOf39 : Try.prog.cellsOf 39 = 2 := by kernel_rfl
set_option maxRecDepth 100000 in
theorem lifted (os : Os) (started : os.Started) (H : Type) (enc : TypeId × Value → H) :
    ReturnsInHanded {} Try.checked os 6 .any (Rows.fnSetsOverlapOneSpec.pre6 enc Try.prog Try.f6 Rows.fnSetsOverlapOneRow.domain false) (Rows.fnSetsOverlapOneSpec.post enc Try.prog Try.f6 false true false false) := by
  refine returnsInHanded_of_change_sized (C := Try.checked) own started (by kernel_rfl) Try.func6
    (ChangeSpec.witness6 (enc := enc) (C := Try.checked) false ⟨#[], #[.agg #[.int .i64 0, .int .i64 0], .agg #[.int .i64 0, .int .i64 0]], []⟩ 8 (by kernel_rfl) (by kernel_rfl) (by kernel_rfl) (by kernel_rfl)) ?_
  intro W base args ds gs before hval0 hW _ _ _
  have hval : ∀ (j : Nat) t v, Try.f6.params[j]? = some t → args[j]? = some v → Value.okWide Try.prog W .any base t v := hval0
  have hW' := hW
  obtain ⟨p, q, hA0, hV, rfl, _, _⟩ := hW
  have hA : DataW.TrodAll enc Try.prog W 0 (fun _ => true) true Try.f6.params.toList args.toList ds p := hA0
  rw [Try.params6] at hA hval
  obtain ⟨v0, vs0, d0, ds0, p0, q0, hargs, rfl, rfl, h0, r0⟩ := trodAll_cons hA
  obtain ⟨v1, vs1, d1, ds1, p1, q1, rfl, rfl, rfl, h1, r1⟩ := trodAll_cons r0
  obtain ⟨rfl, rfl, rfl⟩ := trodAll_nil r1
  obtain rfl : args = #[v0, v1] := by cases args; simp_all
  obtain ⟨rfl, rfl⟩ := trodVars_none hV
  obtain ⟨c0_0, c0_1, y0_0, y0_1, m0, rfl, rfl, rfl, g0_0, g0_1⟩ := open_agg2 Try.underlying39 (by kernel_rfl) cellsOf39 (hval 0 39 v0 rfl rfl) h0
  obtain ⟨a0_0, e0_0, rfl, w0_0⟩ := DataW.trod_int Try.underlying3 g0_0
  obtain ⟨a0_1, e0_1, rfl, w0_1⟩ := DataW.trod_int Try.underlying3 g0_1
  simp at e0_0 e0_1
  subst e0_0 e0_1
  have sr0 : ∀ (W' : World) (sp : Nat → Bool), DataW.Trod enc Try.prog W' 0 sp true 39 (.agg #[.int .i64 a0_0, .int .i64 a0_1]) (.agg [.lit (.int .i64 a0_0), .lit (.int .i64 a0_1)]) [] := fun W' sp =>
    shut_agg2 (y0 := (.lit (.int .i64 a0_0), [])) (y1 := (.lit (.int .i64 a0_1), [])) Try.underlying39 (by kernel_rfl) cellsOf39 ⟨1, by simp [DataW.trod, Try.underlying3, w0_0]⟩ ⟨1, by simp [DataW.trod, Try.underlying3, w0_1]⟩
  obtain ⟨c1_0, c1_1, y1_0, y1_1, m1, rfl, rfl, rfl, g1_0, g1_1⟩ := open_agg2 Try.underlying39 (by kernel_rfl) cellsOf39 (hval 1 39 v1 rfl rfl) h1
  obtain ⟨a1_0, e1_0, rfl, w1_0⟩ := DataW.trod_int Try.underlying3 g1_0
  obtain ⟨a1_1, e1_1, rfl, w1_1⟩ := DataW.trod_int Try.underlying3 g1_1
  simp at e1_0 e1_1
  subst e1_0 e1_1
  have sr1 : ∀ (W' : World) (sp : Nat → Bool), DataW.Trod enc Try.prog W' 0 sp true 39 (.agg #[.int .i64 a1_0, .int .i64 a1_1]) (.agg [.lit (.int .i64 a1_0), .lit (.int .i64 a1_1)]) [] := fun W' sp =>
    shut_agg2 (y0 := (.lit (.int .i64 a1_0), [])) (y1 := (.lit (.int .i64 a1_1), [])) Try.underlying39 (by kernel_rfl) cellsOf39 ⟨1, by simp [DataW.trod, Try.underlying3, w1_0]⟩ ⟨1, by simp [DataW.trod, Try.underlying3, w1_1]⟩
  clear hA0 hval0
  simp only [List.append_nil] at hW'
  refine (Go.Proofs.Ytmfffeoodlmnbaa.C6.c6r a0_0 a0_1 a1_0 a1_1 W w0_0 w0_1 w1_0 w1_1).mono fun e W' ⟨he, bel⟩ => ?_
  subst he
  exact ⟨_, rfl, _, _, _, [], _, [], hW', trodAll_mk1 (shut_bool Try.underlying4 _), (trodAll_cons_mk (sr0 _ _) (trodAll_cons_mk (sr1 _ _) trodAll_mk0)), rfl, bel.frame _, fun h => by cases h⟩
theorem over : Rows.fnSetsOverlapOneRow.holds Try.pinned (OpenSpec.ofChange Rows.fnSetsOverlapOneSpec) :=
  OpenClaim.holds_of_wide 6 Try.f6 rfl rfl rfl rfl rfl rfl rfl ⟨rfl, rfl, rfl, rfl, rfl⟩ rfl rfl rfl rfl rfl (by kernel_rfl) Try.func6 (by kernel_rfl)
    (of_decide_eq_true (by kernel_rfl)) (by unfold Func.isWrapper; first | (rw [if_pos (by decide +kernel)]; kernel_rfl) | (rw [if_neg (by decide +kernel)]; exact ⟨rfl, rfl⟩))
    (fun os started H enc _ => lifted os started H enc)
end Go.Proofs.Ytmfffeoodlmnbaa.fnSetsOverlapOneRow
namespace Go.Proofs.Ytmfffeoodlmnbaa
theorem fnSetsOverlapOne_holds : Rows.FnSetsOverlapOneSaid := fnSetsOverlapOneRow.over
end Go.Proofs.Ytmfffeoodlmnbaa
