/-
  No cell of these rows narrows 'for every input' (looked for: loops, veiled, ifaces, maps, wideKeys, modest, calm, conditions, laid).
  DERIVED. THE GIVEN ROWS OF THIS SEAT. 12 by the template 'for every input the law returns true; each argument reads behind the call as it read before'; 0 by the template 'total and deterministic' (their statements: YtffpghicoalmhaaTotals.lean).
  GIVEN WITH THE SEED: the statements are not yours to turn. If you find one false, say at which input.
  Laid BY PROGRAM, IN A SANDBOX (cutbox-rows.mjs): the forced cells as the released guide's own fill.sh prints them over the translation 90349ff58441829c… (all of the seat's roots in one cut). By AI agents, Wed Nov 11 2026. No macro, syntax, notation, axiom, sorry.
-/
import Derived.Test.YtffpghicoalmhaaChecked
import GoSem.Claim
import GoSem.ClaimJoined
import GoSem.ClaimMapViews
import Derived.JoinedTies
import Derived.KernelRfl
namespace Go.Proofs.Ytffpghicoalmhaa
/- THE CELL 'sum', in the pinned program and in every row, IS THE sha256 OF THE DUMP (.gsa) THAT YtffpghicoalmhaaProg.lean LOADS. Nothing in Lean hashes anything: it is a label: what it is worth is what the hold of that sum in a sandbox is worth. -/
noncomputable def Try.pinned : Pinned := { name := "ytffpghicoalmhaa", sum := "90349ff58441829c8ae01cdbc8d3c107dcfdd7757cefaefddf01cff304dffd67", checked := Try.checked }
namespace Rows
def none {H : Type} : Left H := { results := [], args := [] }

/-- 'laws.FnAdjacentIs': WHATEVER THE INPUT: true; the input reads as it did. -/
def fnAdjacentIsSpec : ChangeSpec := { name := "fnAdjacentIs", fn := fun _ => fun
  | [d1, d2] => { results := [.lit (.bool true)], args := [d1, d2] }
  | _ => none }
def fnAdjacentIsRow : OpenClaim := { program := "ytffpghicoalmhaa", sum := "90349ff58441829c8ae01cdbc8d3c107dcfdd7757cefaefddf01cff304dffd67", func := "loop.example/pub-g01459/laws.FnAdjacentIs", spec := "fnAdjacentIs", apart := false }
def FnAdjacentIsSaid : Prop := fnAdjacentIsRow.holds Try.pinned (OpenSpec.ofChange fnAdjacentIsSpec)

/-- ITS FALSE NEIGHBOUR: 'it returns false'. Refute it at one input. -/
def fnAdjacentIsWrong : ChangeSpec := { name := "fnAdjacentIs", fn := fun _ => fun
  | [d1, d2] => { results := [.lit (.bool false)], args := [d1, d2] }
  | _ => none }
def FnAdjacentIsWrongFalsely : Prop := fnAdjacentIsRow.holds Try.pinned (OpenSpec.ofChange fnAdjacentIsWrong)

/-- 'laws.FnSequenceIs': WHATEVER THE INPUT: true; the input reads as it did. -/
def fnSequenceIsSpec : ChangeSpec := { name := "fnSequenceIs", fn := fun _ => fun
  | [d] => { results := [.lit (.bool true)], args := [d] }
  | _ => none }
def fnSequenceIsRow : OpenClaim := { program := "ytffpghicoalmhaa", sum := "90349ff58441829c8ae01cdbc8d3c107dcfdd7757cefaefddf01cff304dffd67", func := "loop.example/pub-g01459/laws.FnSequenceIs", spec := "fnSequenceIs", apart := false }
def FnSequenceIsSaid : Prop := fnSequenceIsRow.holds Try.pinned (OpenSpec.ofChange fnSequenceIsSpec)

/-- ITS FALSE NEIGHBOUR: 'it returns false'. Refute it at one input. -/
def fnSequenceIsWrong : ChangeSpec := { name := "fnSequenceIs", fn := fun _ => fun
  | [d] => { results := [.lit (.bool false)], args := [d] }
  | _ => none }
def FnSequenceIsWrongFalsely : Prop := fnSequenceIsRow.holds Try.pinned (OpenSpec.ofChange fnSequenceIsWrong)

/-- 'laws.FnPowers16': WHATEVER THE INPUT: true; the input reads as it did. -/
def fnPowers16Spec : ChangeSpec := { name := "fnPowers16", fn := fun _ => fun
  | [d] => { results := [.lit (.bool true)], args := [d] }
  | _ => none }
def fnPowers16Row : OpenClaim := { program := "ytffpghicoalmhaa", sum := "90349ff58441829c8ae01cdbc8d3c107dcfdd7757cefaefddf01cff304dffd67", func := "loop.example/pub-g01459/laws.FnPowers16", spec := "fnPowers16", apart := false }
def FnPowers16Said : Prop := fnPowers16Row.holds Try.pinned (OpenSpec.ofChange fnPowers16Spec)

/-- ITS FALSE NEIGHBOUR: 'it returns false'. Refute it at one input. -/
def fnPowers16Wrong : ChangeSpec := { name := "fnPowers16", fn := fun _ => fun
  | [d] => { results := [.lit (.bool false)], args := [d] }
  | _ => none }
def FnPowers16WrongFalsely : Prop := fnPowers16Row.holds Try.pinned (OpenSpec.ofChange fnPowers16Wrong)

/-- 'laws.FnPowers64': WHATEVER THE INPUT: true; the input reads as it did. -/
def fnPowers64Spec : ChangeSpec := { name := "fnPowers64", fn := fun _ => fun
  | [d] => { results := [.lit (.bool true)], args := [d] }
  | _ => none }
def fnPowers64Row : OpenClaim := { program := "ytffpghicoalmhaa", sum := "90349ff58441829c8ae01cdbc8d3c107dcfdd7757cefaefddf01cff304dffd67", func := "loop.example/pub-g01459/laws.FnPowers64", spec := "fnPowers64", apart := false }
def FnPowers64Said : Prop := fnPowers64Row.holds Try.pinned (OpenSpec.ofChange fnPowers64Spec)

/-- ITS FALSE NEIGHBOUR: 'it returns false'. Refute it at one input. -/
def fnPowers64Wrong : ChangeSpec := { name := "fnPowers64", fn := fun _ => fun
  | [d] => { results := [.lit (.bool false)], args := [d] }
  | _ => none }
def FnPowers64WrongFalsely : Prop := fnPowers64Row.holds Try.pinned (OpenSpec.ofChange fnPowers64Wrong)

/-- 'laws.FnRotateRight64': WHATEVER THE INPUT: true; the input reads as it did. -/
def fnRotateRight64Spec : ChangeSpec := { name := "fnRotateRight64", fn := fun _ => fun
  | [d1, d2] => { results := [.lit (.bool true)], args := [d1, d2] }
  | _ => none }
def fnRotateRight64Row : OpenClaim := { program := "ytffpghicoalmhaa", sum := "90349ff58441829c8ae01cdbc8d3c107dcfdd7757cefaefddf01cff304dffd67", func := "loop.example/pub-g01459/laws.FnRotateRight64", spec := "fnRotateRight64", apart := false }
def FnRotateRight64Said : Prop := fnRotateRight64Row.holds Try.pinned (OpenSpec.ofChange fnRotateRight64Spec)

/-- ITS FALSE NEIGHBOUR: 'it returns false'. Refute it at one input. -/
def fnRotateRight64Wrong : ChangeSpec := { name := "fnRotateRight64", fn := fun _ => fun
  | [d1, d2] => { results := [.lit (.bool false)], args := [d1, d2] }
  | _ => none }
def FnRotateRight64WrongFalsely : Prop := fnRotateRight64Row.holds Try.pinned (OpenSpec.ofChange fnRotateRight64Wrong)

/-- 'laws.FnRangesOverlap': WHATEVER THE INPUT: true; the input reads as it did. -/
def fnRangesOverlapSpec : ChangeSpec := { name := "fnRangesOverlap", fn := fun _ => fun
  | [d1, d2, d3, d4] => { results := [.lit (.bool true)], args := [d1, d2, d3, d4] }
  | _ => none }
def fnRangesOverlapRow : OpenClaim := { program := "ytffpghicoalmhaa", sum := "90349ff58441829c8ae01cdbc8d3c107dcfdd7757cefaefddf01cff304dffd67", func := "loop.example/pub-g01459/laws.FnRangesOverlap", spec := "fnRangesOverlap", apart := false }
def FnRangesOverlapSaid : Prop := fnRangesOverlapRow.holds Try.pinned (OpenSpec.ofChange fnRangesOverlapSpec)

/-- ITS FALSE NEIGHBOUR: 'it returns false'. Refute it at one input. -/
def fnRangesOverlapWrong : ChangeSpec := { name := "fnRangesOverlap", fn := fun _ => fun
  | [d1, d2, d3, d4] => { results := [.lit (.bool false)], args := [d1, d2, d3, d4] }
  | _ => none }
def FnRangesOverlapWrongFalsely : Prop := fnRangesOverlapRow.holds Try.pinned (OpenSpec.ofChange fnRangesOverlapWrong)

/-- 'laws.FnAddconIs': WHATEVER THE INPUT: true; the input reads as it did. -/
def fnAddconIsSpec : ChangeSpec := { name := "fnAddconIs", fn := fun _ => fun
  | [d] => { results := [.lit (.bool true)], args := [d] }
  | _ => none }
def fnAddconIsRow : OpenClaim := { program := "ytffpghicoalmhaa", sum := "90349ff58441829c8ae01cdbc8d3c107dcfdd7757cefaefddf01cff304dffd67", func := "loop.example/pub-g01459/laws.FnAddconIs", spec := "fnAddconIs", apart := false }
def FnAddconIsSaid : Prop := fnAddconIsRow.holds Try.pinned (OpenSpec.ofChange fnAddconIsSpec)

/-- ITS FALSE NEIGHBOUR: 'it returns false'. Refute it at one input. -/
def fnAddconIsWrong : ChangeSpec := { name := "fnAddconIs", fn := fun _ => fun
  | [d] => { results := [.lit (.bool false)], args := [d] }
  | _ => none }
def FnAddconIsWrongFalsely : Prop := fnAddconIsRow.holds Try.pinned (OpenSpec.ofChange fnAddconIsWrong)

/-- 'laws.FnImmRotIs': WHATEVER THE INPUT: true; the input reads as it did. -/
def fnImmRotIsSpec : ChangeSpec := { name := "fnImmRotIs", fn := fun _ => fun
  | [d] => { results := [.lit (.bool true)], args := [d] }
  | _ => none }
def fnImmRotIsRow : OpenClaim := { program := "ytffpghicoalmhaa", sum := "90349ff58441829c8ae01cdbc8d3c107dcfdd7757cefaefddf01cff304dffd67", func := "loop.example/pub-g01459/laws.FnImmRotIs", spec := "fnImmRotIs", apart := false }
def FnImmRotIsSaid : Prop := fnImmRotIsRow.holds Try.pinned (OpenSpec.ofChange fnImmRotIsSpec)

/-- ITS FALSE NEIGHBOUR: 'it returns false'. Refute it at one input. -/
def fnImmRotIsWrong : ChangeSpec := { name := "fnImmRotIs", fn := fun _ => fun
  | [d] => { results := [.lit (.bool false)], args := [d] }
  | _ => none }
def FnImmRotIsWrongFalsely : Prop := fnImmRotIsRow.holds Try.pinned (OpenSpec.ofChange fnImmRotIsWrong)

/-- 'laws.FnOverlapPlace': WHATEVER THE INPUT: true; the input reads as it did. -/
def fnOverlapPlaceSpec : ChangeSpec := { name := "fnOverlapPlace", fn := fun _ => fun
  | [d1, d2, d3] => { results := [.lit (.bool true)], args := [d1, d2, d3] }
  | _ => none }
def fnOverlapPlaceRow : OpenClaim := { program := "ytffpghicoalmhaa", sum := "90349ff58441829c8ae01cdbc8d3c107dcfdd7757cefaefddf01cff304dffd67", func := "loop.example/pub-g01459/laws.FnOverlapPlace", spec := "fnOverlapPlace", apart := false }
def FnOverlapPlaceSaid : Prop := fnOverlapPlaceRow.holds Try.pinned (OpenSpec.ofChange fnOverlapPlaceSpec)

/-- ITS FALSE NEIGHBOUR: 'it returns false'. Refute it at one input. -/
def fnOverlapPlaceWrong : ChangeSpec := { name := "fnOverlapPlace", fn := fun _ => fun
  | [d1, d2, d3] => { results := [.lit (.bool false)], args := [d1, d2, d3] }
  | _ => none }
def FnOverlapPlaceWrongFalsely : Prop := fnOverlapPlaceRow.holds Try.pinned (OpenSpec.ofChange fnOverlapPlaceWrong)

/-- 'laws.FnInverseMul': WHATEVER THE INPUT: true; the input reads as it did. -/
def fnInverseMulSpec : ChangeSpec := { name := "fnInverseMul", fn := fun _ => fun
  | [d1, d2] => { results := [.lit (.bool true)], args := [d1, d2] }
  | _ => none }
def fnInverseMulRow : OpenClaim := { program := "ytffpghicoalmhaa", sum := "90349ff58441829c8ae01cdbc8d3c107dcfdd7757cefaefddf01cff304dffd67", func := "loop.example/pub-g01459/laws.FnInverseMul", spec := "fnInverseMul", apart := false }
def FnInverseMulSaid : Prop := fnInverseMulRow.holds Try.pinned (OpenSpec.ofChange fnInverseMulSpec)

/-- ITS FALSE NEIGHBOUR: 'it returns false'. Refute it at one input. -/
def fnInverseMulWrong : ChangeSpec := { name := "fnInverseMul", fn := fun _ => fun
  | [d1, d2] => { results := [.lit (.bool false)], args := [d1, d2] }
  | _ => none }
def FnInverseMulWrongFalsely : Prop := fnInverseMulRow.holds Try.pinned (OpenSpec.ofChange fnInverseMulWrong)

/-- 'laws.FnBounds': WHATEVER THE INPUT: true; the input reads as it did. -/
def fnBoundsSpec : ChangeSpec := { name := "fnBounds", fn := fun _ => fun
  | [d] => { results := [.lit (.bool true)], args := [d] }
  | _ => none }
def fnBoundsRow : OpenClaim := { program := "ytffpghicoalmhaa", sum := "90349ff58441829c8ae01cdbc8d3c107dcfdd7757cefaefddf01cff304dffd67", func := "loop.example/pub-g01459/laws.FnBounds", spec := "fnBounds", apart := false }
def FnBoundsSaid : Prop := fnBoundsRow.holds Try.pinned (OpenSpec.ofChange fnBoundsSpec)

/-- ITS FALSE NEIGHBOUR: 'it returns false'. Refute it at one input. -/
def fnBoundsWrong : ChangeSpec := { name := "fnBounds", fn := fun _ => fun
  | [d] => { results := [.lit (.bool false)], args := [d] }
  | _ => none }
def FnBoundsWrongFalsely : Prop := fnBoundsRow.holds Try.pinned (OpenSpec.ofChange fnBoundsWrong)

/-- 'laws.FnMulHalves32': WHATEVER THE INPUT: true; the input reads as it did. -/
def fnMulHalves32Spec : ChangeSpec := { name := "fnMulHalves32", fn := fun _ => fun
  | [d1, d2] => { results := [.lit (.bool true)], args := [d1, d2] }
  | _ => none }
def fnMulHalves32Row : OpenClaim := { program := "ytffpghicoalmhaa", sum := "90349ff58441829c8ae01cdbc8d3c107dcfdd7757cefaefddf01cff304dffd67", func := "loop.example/pub-g01459/laws.FnMulHalves32", spec := "fnMulHalves32", apart := false }
def FnMulHalves32Said : Prop := fnMulHalves32Row.holds Try.pinned (OpenSpec.ofChange fnMulHalves32Spec)

/-- ITS FALSE NEIGHBOUR: 'it returns false'. Refute it at one input. -/
def fnMulHalves32Wrong : ChangeSpec := { name := "fnMulHalves32", fn := fun _ => fun
  | [d1, d2] => { results := [.lit (.bool false)], args := [d1, d2] }
  | _ => none }
def FnMulHalves32WrongFalsely : Prop := fnMulHalves32Row.holds Try.pinned (OpenSpec.ofChange fnMulHalves32Wrong)

/- THE SECOND FORM. 'bulk': how many values and letters a reading holds, each counted each time it is reached (what is shared counts as often as it is met; a slice's spare places count too). A statement '..UptoSaid' is the law's where the arguments, and the package variables that the reading takes, are together of bulk at most 1048576: NARROWER than '..Said'. Prove '..Said' where nothing that the law and all that it calls make is longer than what came in: it says more and counts as full. Else prove '..UptoSaid'. A law counts once. -/
mutual
def uptoBulk {H : Type} : DataW H → Nat
  | .lit (.string bytes) => bytes.length + 1
  | .lit _ => 1
  | .nil => 1
  | .ptr d => uptoBulk d + 1
  | .slice elems spare => uptoBulkAll elems + uptoBulkAll spare + 1
  | .agg parts => uptoBulkAll parts + 1
  | .iface _ d => uptoBulk d + 1
  | .map entries => uptoBulkEntries entries + 1
  | .held _ => 1
def uptoBulkAll {H : Type} : List (DataW H) → Nat
  | [] => 0
  | d :: r => uptoBulk d + uptoBulkAll r
def uptoBulkEntries {H : Type} : List (Lit × DataW H) → Nat
  | [] => 0
  | x :: r => uptoBulkEntry x + uptoBulkEntries r
def uptoBulkEntry {H : Type} : Lit × DataW H → Nat
  | (.string bytes, d) => bytes.length + uptoBulk d + 1
  | (_, d) => uptoBulk d + 1
 end
def uptoSmall : (H : Type) → List (DataW H) → Bool := fun _ ds => decide (uptoBulkAll ds ≤ 1048576)
def OpenSpec.upto (s : _root_.Go.ChangeSpec) : _root_.Go.OpenSpec := { _root_.Go.OpenSpec.ofChange s with cond := some uptoSmall }

/-- 'laws.FnAdjacentIs', WHERE WHAT IT READS IS OF BULK AT MOST 1048576: true; the input reads as it did. -/
def fnAdjacentIsUptoRow : OpenClaim := { program := "ytffpghicoalmhaa", sum := "90349ff58441829c8ae01cdbc8d3c107dcfdd7757cefaefddf01cff304dffd67", func := "loop.example/pub-g01459/laws.FnAdjacentIs", spec := "fnAdjacentIs", apart := false, narrowed := true }
def FnAdjacentIsUptoSaid : Prop := fnAdjacentIsUptoRow.holds Try.pinned (OpenSpec.upto fnAdjacentIsSpec)

/-- 'laws.FnSequenceIs', WHERE WHAT IT READS IS OF BULK AT MOST 1048576: true; the input reads as it did. -/
def fnSequenceIsUptoRow : OpenClaim := { program := "ytffpghicoalmhaa", sum := "90349ff58441829c8ae01cdbc8d3c107dcfdd7757cefaefddf01cff304dffd67", func := "loop.example/pub-g01459/laws.FnSequenceIs", spec := "fnSequenceIs", apart := false, narrowed := true }
def FnSequenceIsUptoSaid : Prop := fnSequenceIsUptoRow.holds Try.pinned (OpenSpec.upto fnSequenceIsSpec)

/-- 'laws.FnPowers16', WHERE WHAT IT READS IS OF BULK AT MOST 1048576: true; the input reads as it did. -/
def fnPowers16UptoRow : OpenClaim := { program := "ytffpghicoalmhaa", sum := "90349ff58441829c8ae01cdbc8d3c107dcfdd7757cefaefddf01cff304dffd67", func := "loop.example/pub-g01459/laws.FnPowers16", spec := "fnPowers16", apart := false, narrowed := true }
def FnPowers16UptoSaid : Prop := fnPowers16UptoRow.holds Try.pinned (OpenSpec.upto fnPowers16Spec)

/-- 'laws.FnPowers64', WHERE WHAT IT READS IS OF BULK AT MOST 1048576: true; the input reads as it did. -/
def fnPowers64UptoRow : OpenClaim := { program := "ytffpghicoalmhaa", sum := "90349ff58441829c8ae01cdbc8d3c107dcfdd7757cefaefddf01cff304dffd67", func := "loop.example/pub-g01459/laws.FnPowers64", spec := "fnPowers64", apart := false, narrowed := true }
def FnPowers64UptoSaid : Prop := fnPowers64UptoRow.holds Try.pinned (OpenSpec.upto fnPowers64Spec)

/-- 'laws.FnRotateRight64', WHERE WHAT IT READS IS OF BULK AT MOST 1048576: true; the input reads as it did. -/
def fnRotateRight64UptoRow : OpenClaim := { program := "ytffpghicoalmhaa", sum := "90349ff58441829c8ae01cdbc8d3c107dcfdd7757cefaefddf01cff304dffd67", func := "loop.example/pub-g01459/laws.FnRotateRight64", spec := "fnRotateRight64", apart := false, narrowed := true }
def FnRotateRight64UptoSaid : Prop := fnRotateRight64UptoRow.holds Try.pinned (OpenSpec.upto fnRotateRight64Spec)

/-- 'laws.FnRangesOverlap', WHERE WHAT IT READS IS OF BULK AT MOST 1048576: true; the input reads as it did. -/
def fnRangesOverlapUptoRow : OpenClaim := { program := "ytffpghicoalmhaa", sum := "90349ff58441829c8ae01cdbc8d3c107dcfdd7757cefaefddf01cff304dffd67", func := "loop.example/pub-g01459/laws.FnRangesOverlap", spec := "fnRangesOverlap", apart := false, narrowed := true }
def FnRangesOverlapUptoSaid : Prop := fnRangesOverlapUptoRow.holds Try.pinned (OpenSpec.upto fnRangesOverlapSpec)

/-- 'laws.FnAddconIs', WHERE WHAT IT READS IS OF BULK AT MOST 1048576: true; the input reads as it did. -/
def fnAddconIsUptoRow : OpenClaim := { program := "ytffpghicoalmhaa", sum := "90349ff58441829c8ae01cdbc8d3c107dcfdd7757cefaefddf01cff304dffd67", func := "loop.example/pub-g01459/laws.FnAddconIs", spec := "fnAddconIs", apart := false, narrowed := true }
def FnAddconIsUptoSaid : Prop := fnAddconIsUptoRow.holds Try.pinned (OpenSpec.upto fnAddconIsSpec)

/-- 'laws.FnImmRotIs', WHERE WHAT IT READS IS OF BULK AT MOST 1048576: true; the input reads as it did. -/
def fnImmRotIsUptoRow : OpenClaim := { program := "ytffpghicoalmhaa", sum := "90349ff58441829c8ae01cdbc8d3c107dcfdd7757cefaefddf01cff304dffd67", func := "loop.example/pub-g01459/laws.FnImmRotIs", spec := "fnImmRotIs", apart := false, narrowed := true }
def FnImmRotIsUptoSaid : Prop := fnImmRotIsUptoRow.holds Try.pinned (OpenSpec.upto fnImmRotIsSpec)

/-- 'laws.FnOverlapPlace', WHERE WHAT IT READS IS OF BULK AT MOST 1048576: true; the input reads as it did. -/
def fnOverlapPlaceUptoRow : OpenClaim := { program := "ytffpghicoalmhaa", sum := "90349ff58441829c8ae01cdbc8d3c107dcfdd7757cefaefddf01cff304dffd67", func := "loop.example/pub-g01459/laws.FnOverlapPlace", spec := "fnOverlapPlace", apart := false, narrowed := true }
def FnOverlapPlaceUptoSaid : Prop := fnOverlapPlaceUptoRow.holds Try.pinned (OpenSpec.upto fnOverlapPlaceSpec)

/-- 'laws.FnInverseMul', WHERE WHAT IT READS IS OF BULK AT MOST 1048576: true; the input reads as it did. -/
def fnInverseMulUptoRow : OpenClaim := { program := "ytffpghicoalmhaa", sum := "90349ff58441829c8ae01cdbc8d3c107dcfdd7757cefaefddf01cff304dffd67", func := "loop.example/pub-g01459/laws.FnInverseMul", spec := "fnInverseMul", apart := false, narrowed := true }
def FnInverseMulUptoSaid : Prop := fnInverseMulUptoRow.holds Try.pinned (OpenSpec.upto fnInverseMulSpec)

/-- 'laws.FnBounds', WHERE WHAT IT READS IS OF BULK AT MOST 1048576: true; the input reads as it did. -/
def fnBoundsUptoRow : OpenClaim := { program := "ytffpghicoalmhaa", sum := "90349ff58441829c8ae01cdbc8d3c107dcfdd7757cefaefddf01cff304dffd67", func := "loop.example/pub-g01459/laws.FnBounds", spec := "fnBounds", apart := false, narrowed := true }
def FnBoundsUptoSaid : Prop := fnBoundsUptoRow.holds Try.pinned (OpenSpec.upto fnBoundsSpec)

/-- 'laws.FnMulHalves32', WHERE WHAT IT READS IS OF BULK AT MOST 1048576: true; the input reads as it did. -/
def fnMulHalves32UptoRow : OpenClaim := { program := "ytffpghicoalmhaa", sum := "90349ff58441829c8ae01cdbc8d3c107dcfdd7757cefaefddf01cff304dffd67", func := "loop.example/pub-g01459/laws.FnMulHalves32", spec := "fnMulHalves32", apart := false, narrowed := true }
def FnMulHalves32UptoSaid : Prop := fnMulHalves32UptoRow.holds Try.pinned (OpenSpec.upto fnMulHalves32Spec)

end Rows
end Go.Proofs.Ytffpghicoalmhaa
