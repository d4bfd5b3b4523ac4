/- FnRlwinmAnd: the row and the tied card: for every input the law returns true, where bits.deBruijn32tab and bits.deBruijn64tab hold what the program's text lays; no other condition. -/
import Derived.Test.YtmldgakbkachpaaDoorRows
import Derived.Test.YtmldgakbkachpaaDoorCards
import Derived.Test.YtmldgakbkachpaaDoorTie
import Derived.Test.YtmldgakbkachpaaDoorRa
import Derived.WalkKit
import Derived.ProofKit
import Derived.LaidMore
import Derived.OpenShut
import Derived.Stop.Joined
import Derived.Stop.LaidErr
import Derived.Lib.LaidTab
import Derived.ShutString
import Derived.ChangeOld
import Derived.Below
import Derived.SizedLaws
import Derived.SevenTiedAt
namespace Go.Proofs.YtmldgakbkachpaaDoor.fnRlwinmAndRow
open Go Go.ChangeShapes Go.WideShapes Go.ChangeAt Go.RowKit
theorem own : ownKnob Tryd.prog.godebug = none := by kernel_rfl
abbrev laidL : List (String × DataW Unit) := [("math/bits.deBruijn32tab", Rows.laid_math_bits_deBruijn32tab), ("math/bits.deBruijn64tab", Rows.laid_math_bits_deBruijn64tab)]
theorem door_met (os : Os) (args : Array Value) : laidMetH Tryd.prog laidL ((World.doorLaid Tryd.prog 400 os).forCall (fun _ _ => 0) ⟨#[], args, []⟩).memory :=
  laidMetH_of_parts3 (fuel := 8) (laidMet_of_run' 8 (by kernel_rfl) (by kernel_rfl)) (by kernel_rfl) (by kernel_rfl)
theorem gT0 : Tryd.prog.globalNamed "math/bits.deBruijn32tab" = some 0 := by kernel_rfl
theorem tT0 : (Tryd.prog.globals[0]?).map (·.type) = some 58 := by kernel_rfl
theorem dT0 : (Rows.laid_math_bits_deBruijn32tab : DataW Unit) = Lib.tabData .u8 (Lib.deBruijn32tab.map Int.ofNat) := by kernel_rfl
theorem cT0 : Tryd.prog.cellsOf 58 = 32 := by kernel_rfl
theorem gT1 : Tryd.prog.globalNamed "math/bits.deBruijn64tab" = some 1 := by kernel_rfl
theorem tT1 : (Tryd.prog.globals[1]?).map (·.type) = some 59 := by kernel_rfl
theorem dT1 : (Rows.laid_math_bits_deBruijn64tab : DataW Unit) = Lib.tabData .u8 (Lib.deBruijn64tab.map Int.ofNat) := by kernel_rfl
theorem cT1 : Tryd.prog.cellsOf 59 = 64 := by kernel_rfl
theorem c8 : Tryd.prog.cellsOf 5 = 1 := by kernel_rfl
theorem of_laid {W : World} (h : laidMetH Tryd.prog laidL W) : TabAt 0 Lib.deBruijn32tab W ∧ TabAt 1 Lib.deBruijn64tab W := by
  rw [MakeChecks.laidMetH_plain _ _ _ (by kernel_rfl)] at h
  have h0_0 := h
  have h0 : laidMet Tryd.prog (("math/bits.deBruijn32tab", Lib.tabData .u8 (Lib.deBruijn32tab.map Int.ofNat)) :: [("math/bits.deBruijn64tab", Rows.laid_math_bits_deBruijn64tab)]) W := by rw [← dT0]; exact h
  have t0 := Lib.tabIs_of_head gT0 tT0 Tryd.underlying58 Tryd.underlying5 c8 cT0 h0
  have h0r := laidMet.tail h0
  have h1_0 := h0r
  have h1 : laidMet Tryd.prog (("math/bits.deBruijn64tab", Lib.tabData .u8 (Lib.deBruijn64tab.map Int.ofNat)) :: []) W := by rw [← dT1]; exact h0r
  have t1 := Lib.tabIs_of_head gT1 tT1 Tryd.underlying59 Tryd.underlying5 c8 cT1 h1
  have f0 : TabAt 0 Lib.deBruijn32tab W := fun j hj => by
    have := t0.cell gT0 j (by simpa using hj)
    rw [this]
    simp [List.getD, hj]
  have f1 : TabAt 1 Lib.deBruijn64tab W := fun j hj => by
    have := t1.cell gT1 j (by simpa using hj)
    rw [this]
    simp [List.getD, hj]
  exact ⟨f0, f1⟩
set_option maxRecDepth 100000 in
theorem lifted (os : Os) (started : os.Started) (H : Type) (enc : TypeId × Value → H) :
    ReturnsInHanded {} Tryd.checked os 8 .any (fun w args => (Rows.fnRlwinmAndSpec.pre enc Tryd.prog Tryd.f8 [] false w args ∧ laidMetH Tryd.prog laidL w) ∧ sizedMet enc Tryd.prog Tryd.f8 (OpenSpec.ofChange Rows.fnRlwinmAndSpec) false w args)
      (Rows.fnRlwinmAndSpec.post enc Tryd.prog Tryd.f8 false true false false) := by
  refine returnsInHanded_of_change_and (C := Tryd.checked) (X := fun w _ => laidMetH Tryd.prog laidL w) (fun _ _ _ hh h => h.of_heap hh) own started (by kernel_rfl) Tryd.func8
    (ChangeSpec.witness_shaped (enc := enc) (C := Tryd.checked) (os := os) (X := fun w _ => laidMetH Tryd.prog laidL w) false (World.doorLaid Tryd.prog 400 os) #[.int .u32 0, .int .i64 0, .int .i64 0, .int .i64 0, .int .u64 0] 8 rfl (World.shaped_of_RefB (by kernel_rfl) (by kernel_rfl)) (by kernel_rfl) (by kernel_rfl) (by kernel_rfl) (door_met os _)) ?_
  intro W base args ds gs before hval0 hW _ _ hL _
  have hval : ∀ (j : Nat) t v, Tryd.f8.params[j]? = some t → args[j]? = some v → Value.okWide Tryd.prog W .any base t v := hval0
  have hW' := hW
  obtain ⟨p, q, hA0, hV, rfl, _, _⟩ := hW
  have hA : DataW.TrodAll enc Tryd.prog W 0 (fun _ => true) true Tryd.f8.params.toList args.toList ds p := hA0
  rw [Tryd.params8] at hA hval
  obtain ⟨v0, vs0, d0, ds0, p0, q0, hargs, rfl, rfl, h0, r0⟩ := trodAll_cons hA
  obtain ⟨v1, vs1, d1, ds1, p1, q1, rfl, rfl, rfl, h1, r1⟩ := trodAll_cons r0
  obtain ⟨v2, vs2, d2, ds2, p2, q2, rfl, rfl, rfl, h2, r2⟩ := trodAll_cons r1
  obtain ⟨v3, vs3, d3, ds3, p3, q3, rfl, rfl, rfl, h3, r3⟩ := trodAll_cons r2
  obtain ⟨v4, vs4, d4, ds4, p4, q4, rfl, rfl, rfl, h4, r4⟩ := trodAll_cons r3
  obtain ⟨rfl, rfl, rfl⟩ := trodAll_nil r4
  obtain rfl : args = #[v0, v1, v2, v3, v4] := by cases args; simp_all
  obtain ⟨rfl, rfl⟩ := trodVars_none hV
  obtain ⟨a0, rfl, rfl, rfl, w0⟩ := open_int Tryd.underlying42 (hval 0 42 v0 rfl rfl) h0
  obtain ⟨a1, rfl, rfl, rfl, w1⟩ := open_int Tryd.underlying3 (hval 1 3 v1 rfl rfl) h1
  obtain ⟨a2, rfl, rfl, rfl, w2⟩ := open_int Tryd.underlying3 (hval 2 3 v2 rfl rfl) h2
  obtain ⟨a3, rfl, rfl, rfl, w3⟩ := open_int Tryd.underlying3 (hval 3 3 v3 rfl rfl) h3
  obtain ⟨a4, rfl, rfl, rfl, w4⟩ := open_int Tryd.underlying22 (hval 4 22 v4 rfl rfl) h4
  clear hA0 hval0
  have hT := of_laid hL
  refine (Go.Proofs.YtmldgakbkachpaaDoor.Ra.walk a0 a1 a2 a3 a4 W hT.1 hT.2 w0 w1 w2 w3 w4).mono fun e W' ⟨he, bel⟩ => ?_
  subst he
  exact ⟨_, rfl, _, _, _, [], _, [], hW', trodAll_mk1 (shut_bool Tryd.underlying4 _), (trodAll_cons_mk (shut_int Tryd.underlying42 w0) (trodAll_cons_mk (shut_int Tryd.underlying3 w1) (trodAll_cons_mk (shut_int Tryd.underlying3 w2) (trodAll_cons_mk (shut_int Tryd.underlying3 w3) (trodAll_cons_mk (shut_int Tryd.underlying22 w4) trodAll_mk0))))), rfl, bel.frame _, fun h => by cases h⟩
theorem over : Rows.fnRlwinmAndRow.holds Tryd.pinned (OpenSpec.ofChange Rows.fnRlwinmAndSpec) :=
  OpenClaim.holds_of_wide 8 Tryd.f8 rfl rfl rfl rfl rfl rfl rfl ⟨rfl, rfl, rfl, rfl, rfl⟩ rfl rfl rfl rfl rfl (by kernel_rfl) Tryd.func8 (by kernel_rfl)
    (of_decide_eq_true (by kernel_rfl)) (by unfold Func.isWrapper; first | (rw [if_pos (by decide +kernel)]; kernel_rfl) | (rw [if_neg (by decide +kernel)]; exact ⟨rfl, rfl⟩))
    (fun os started H enc _ => lifted os started H enc)
theorem card : Claim7.holds Tryd.pinned (.plain (OpenSpec.ofChange Rows.fnRlwinmAndSpec)) Rows.fnRlwinmAndCard :=
  Claim7.holds_tied_plain_at .later [] [.data, .data] true (true, "b9be92c55e6f68ac7332e5f6485bb97a97f084cff1bb94e3f0ffcd66f8da9fe0") false
    over (fun _ h => by cases h) (by kernel_rfl) (fun _ h => by cases h) fnRlwinmAnd_row_tie rfl ⟨rfl, rfl⟩ (by kernel_rfl) rfl
    (fun f fn hf hfn => by
      obtain rfl : f = 8 := Option.some.inj ((show Tryd.prog.funcNamed "loop.example/pub-g01459/laws.FnRlwinmAnd" = some 8 by kernel_rfl).symm.trans hf) |>.symm
      obtain rfl : fn = Tryd.f8 := (Option.some.inj (Tryd.func8.symm.trans hfn)).symm
      exact ⟨by kernel_rfl, fun j t ht => by
        rw [Tryd.params8] at ht
        have hm : t ∈ [42, 3, 3, 3, 22] := by simpa using Array.mem_of_getElem? ht
        have hall : ([42, 3, 3, 3, 22].all fun u => !Tryd.prog.wantsStandIn u) = true := by kernel_rfl
        exact (show Tryd.prog.wantsStandIn t = false by simpa using List.all_eq_true.1 hall t hm)⟩)
    (by kernel_rfl)
end Go.Proofs.YtmldgakbkachpaaDoor.fnRlwinmAndRow
namespace Go.Proofs.YtmldgakbkachpaaDoor
theorem fnRlwinmAnd_holds : Rows.FnRlwinmAndCardSaid := fnRlwinmAndRow.card
end Go.Proofs.YtmldgakbkachpaaDoor
