/- FnClrlsldiSrd: the row and the tied card: for every input the law returns true, where bits.deBruijn32tab and bits.deBruijn64tab hold what the program's text lays; no other condition. -/
import Derived.Test.YtmldgakbkachpaaDoorRows
import Derived.Test.YtmldgakbkachpaaDoorCards
import Derived.Test.YtmldgakbkachpaaDoorTie
import Derived.Test.YtmldgakbkachpaaDoorCl
import Derived.WalkKit
import Derived.ProofKit
import Derived.LaidMore
import Derived.OpenShut
import Derived.Stop.Joined
import Derived.Stop.LaidErr
import Derived.Lib.LaidTab
import Derived.ShutString
import Derived.ChangeOld
import Derived.Below
import Derived.SizedLaws
import Derived.SevenTiedAt
namespace Go.Proofs.YtmldgakbkachpaaDoor.fnClrlsldiSrdRow
open Go Go.ChangeShapes Go.WideShapes Go.ChangeAt Go.RowKit
theorem own : ownKnob Tryd.prog.godebug = none := by kernel_rfl
abbrev laidL : List (String × DataW Unit) := [("math/bits.deBruijn32tab", Rows.laid_math_bits_deBruijn32tab), ("math/bits.deBruijn64tab", Rows.laid_math_bits_deBruijn64tab)]
theorem door_met (os : Os) (args : Array Value) : laidMetH Tryd.prog laidL ((World.doorLaid Tryd.prog 400 os).forCall (fun _ _ => 0) ⟨#[], args, []⟩).memory :=
  laidMetH_of_parts3 (fuel := 8) (laidMet_of_run' 8 (by kernel_rfl) (by kernel_rfl)) (by kernel_rfl) (by kernel_rfl)
theorem gT0 : Tryd.prog.globalNamed "math/bits.deBruijn32tab" = some 0 := by kernel_rfl
theorem tT0 : (Tryd.prog.globals[0]?).map (·.type) = some 58 := by kernel_rfl
theorem dT0 : (Rows.laid_math_bits_deBruijn32tab : DataW Unit) = Lib.tabData .u8 (Lib.deBruijn32tab.map Int.ofNat) := by kernel_rfl
theorem cT0 : Tryd.prog.cellsOf 58 = 32 := by kernel_rfl
theorem gT1 : Tryd.prog.globalNamed "math/bits.deBruijn64tab" = some 1 := by kernel_rfl
theorem tT1 : (Tryd.prog.globals[1]?).map (·.type) = some 59 := by kernel_rfl
theorem dT1 : (Rows.laid_math_bits_deBruijn64tab : DataW Unit) = Lib.tabData .u8 (Lib.deBruijn64tab.map Int.ofNat) := by kernel_rfl
theorem cT1 : Tryd.prog.cellsOf 59 = 64 := by kernel_rfl
theorem c8 : Tryd.prog.cellsOf 5 = 1 := by kernel_rfl
theorem of_laid {W : World} (h : laidMetH Tryd.prog laidL W) : TabAt 0 Lib.deBruijn32tab W ∧ TabAt 1 Lib.deBruijn64tab W := by
  rw [MakeChecks.laidMetH_plain _ _ _ (by kernel_rfl)] at h
  have h0_0 := h
  have h0 : laidMet Tryd.prog (("math/bits.deBruijn32tab", Lib.tabData .u8 (Lib.deBruijn32tab.map Int.ofNat)) :: [("math/bits.deBruijn64tab", Rows.laid_math_bits_deBruijn64tab)]) W := by rw [← dT0]; exact h
  have t0 := Lib.tabIs_of_head gT0 tT0 Tryd.underlying58 Tryd.underlying5 c8 cT0 h0
  have h0r := laidMet.tail h0
  have h1_0 := h0r
  have h1 : laidMet Tryd.prog (("math/bits.deBruijn64tab", Lib.tabData .u8 (Lib.deBruijn64tab.map Int.ofNat)) :: []) W := by rw [← dT1]; exact h0r
  have t1 := Lib.tabIs_of_head gT1 tT1 Tryd.underlying59 Tryd.underlying5 c8 cT1 h1
  have f0 : TabAt 0 Lib.deBruijn32tab W := fun j hj => by
    have := t0.cell gT0 j (by simpa using hj)
    rw [this]
    simp [List.getD, hj]
  have f1 : TabAt 1 Lib.deBruijn64tab W := fun j hj => by
    have := t1.cell gT1 j (by simpa using hj)
    rw [this]
    simp [List.getD, hj]
  exact ⟨f0, f1⟩
set_option maxRecDepth 100000 in
theorem lifted (os : Os) (started : os.Started) (H : Type) (enc : TypeId × Value → H) :
    ReturnsInHanded {} Tryd.checked os 3 .any (fun w args => (Rows.fnClrlsldiSrdSpec.pre enc Tryd.prog Tryd.f3 [] false w args ∧ laidMetH Tryd.prog laidL w) ∧ sizedMet enc Tryd.prog Tryd.f3 (OpenSpec.ofChange Rows.fnClrlsldiSrdSpec) false w args)
      (Rows.fnClrlsldiSrdSpec.post enc Tryd.prog Tryd.f3 false true false false) := by
  refine returnsInHanded_of_change_and (C := Tryd.checked) (X := fun w _ => laidMetH Tryd.prog laidL w) (fun _ _ _ hh h => h.of_heap hh) own started (by kernel_rfl) Tryd.func3
    (ChangeSpec.witness_shaped (enc := enc) (C := Tryd.checked) (os := os) (X := fun w _ => laidMetH Tryd.prog laidL w) false (World.doorLaid Tryd.prog 400 os) #[.int .i64 0, .int .i64 0, .int .i64 0, .int .u64 0] 8 rfl (World.shaped_of_RefB (by kernel_rfl) (by kernel_rfl)) (by kernel_rfl) (by kernel_rfl) (by kernel_rfl) (door_met os _)) ?_
  intro W base args ds gs before hval0 hW _ _ hL _
  have hval : ∀ (j : Nat) t v, Tryd.f3.params[j]? = some t → args[j]? = some v → Value.okWide Tryd.prog W .any base t v := hval0
  have hW' := hW
  obtain ⟨p, q, hA0, hV, rfl, _, _⟩ := hW
  have hA : DataW.TrodAll enc Tryd.prog W 0 (fun _ => true) true Tryd.f3.params.toList args.toList ds p := hA0
  rw [Tryd.params3] at hA hval
  obtain ⟨v0, vs0, d0, ds0, p0, q0, hargs, rfl, rfl, h0, r0⟩ := trodAll_cons hA
  obtain ⟨v1, vs1, d1, ds1, p1, q1, rfl, rfl, rfl, h1, r1⟩ := trodAll_cons r0
  obtain ⟨v2, vs2, d2, ds2, p2, q2, rfl, rfl, rfl, h2, r2⟩ := trodAll_cons r1
  obtain ⟨v3, vs3, d3, ds3, p3, q3, rfl, rfl, rfl, h3, r3⟩ := trodAll_cons r2
  obtain ⟨rfl, rfl, rfl⟩ := trodAll_nil r3
  obtain rfl : args = #[v0, v1, v2, v3] := by cases args; simp_all
  obtain ⟨rfl, rfl⟩ := trodVars_none hV
  obtain ⟨a0, rfl, rfl, rfl, w0⟩ := open_int Tryd.underlying3 (hval 0 3 v0 rfl rfl) h0
  obtain ⟨a1, rfl, rfl, rfl, w1⟩ := open_int Tryd.underlying3 (hval 1 3 v1 rfl rfl) h1
  obtain ⟨a2, rfl, rfl, rfl, w2⟩ := open_int Tryd.underlying3 (hval 2 3 v2 rfl rfl) h2
  obtain ⟨a3, rfl, rfl, rfl, w3⟩ := open_int Tryd.underlying22 (hval 3 22 v3 rfl rfl) h3
  clear hA0 hval0
  have hT := of_laid hL
  refine (Go.Proofs.YtmldgakbkachpaaDoor.Cl.walk a0 a1 a2 a3 W hT.1 hT.2 w0 w1 w2 w3).mono fun e W' ⟨he, bel⟩ => ?_
  subst he
  exact ⟨_, rfl, _, _, _, [], _, [], hW', trodAll_mk1 (shut_bool Tryd.underlying4 _), (trodAll_cons_mk (shut_int Tryd.underlying3 w0) (trodAll_cons_mk (shut_int Tryd.underlying3 w1) (trodAll_cons_mk (shut_int Tryd.underlying3 w2) (trodAll_cons_mk (shut_int Tryd.underlying22 w3) trodAll_mk0)))), rfl, bel.frame _, fun h => by cases h⟩
theorem over : Rows.fnClrlsldiSrdRow.holds Tryd.pinned (OpenSpec.ofChange Rows.fnClrlsldiSrdSpec) :=
  OpenClaim.holds_of_wide 3 Tryd.f3 rfl rfl rfl rfl rfl rfl rfl ⟨rfl, rfl, rfl, rfl, rfl⟩ rfl rfl rfl rfl rfl (by kernel_rfl) Tryd.func3 (by kernel_rfl)
    (of_decide_eq_true (by kernel_rfl)) (by unfold Func.isWrapper; first | (rw [if_pos (by decide +kernel)]; kernel_rfl) | (rw [if_neg (by decide +kernel)]; exact ⟨rfl, rfl⟩))
    (fun os started H enc _ => lifted os started H enc)
theorem card : Claim7.holds Tryd.pinned (.plain (OpenSpec.ofChange Rows.fnClrlsldiSrdSpec)) Rows.fnClrlsldiSrdCard :=
  Claim7.holds_tied_plain_at .later [] [.data, .data] true (true, "b9be92c55e6f68ac7332e5f6485bb97a97f084cff1bb94e3f0ffcd66f8da9fe0") false
    over (fun _ h => by cases h) (by kernel_rfl) (fun _ h => by cases h) fnClrlsldiSrd_row_tie rfl ⟨rfl, rfl⟩ (by kernel_rfl) rfl
    (fun f fn hf hfn => by
      obtain rfl : f = 3 := Option.some.inj ((show Tryd.prog.funcNamed "loop.example/pub-g01459/laws.FnClrlsldiSrd" = some 3 by kernel_rfl).symm.trans hf) |>.symm
      obtain rfl : fn = Tryd.f3 := (Option.some.inj (Tryd.func3.symm.trans hfn)).symm
      exact ⟨by kernel_rfl, fun j t ht => by
        rw [Tryd.params3] at ht
        have hm : t ∈ [3, 3, 3, 22] := by simpa using Array.mem_of_getElem? ht
        have hall : ([3, 3, 3, 22].all fun u => !Tryd.prog.wantsStandIn u) = true := by kernel_rfl
        exact (show Tryd.prog.wantsStandIn t = false by simpa using List.all_eq_true.1 hall t hm)⟩)
    (by kernel_rfl)
end Go.Proofs.YtmldgakbkachpaaDoor.fnClrlsldiSrdRow
namespace Go.Proofs.YtmldgakbkachpaaDoor
theorem fnClrlsldiSrd_holds : Rows.FnClrlsldiSrdCardSaid := fnClrlsldiSrdRow.card
end Go.Proofs.YtmldgakbkachpaaDoor
