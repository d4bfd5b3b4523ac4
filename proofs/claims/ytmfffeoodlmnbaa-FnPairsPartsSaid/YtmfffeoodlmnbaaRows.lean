/-
  No cell of these rows narrows 'for every input' (looked for: loops, veiled, ifaces, maps, wideKeys, modest, calm, conditions, laid).
  DERIVED. THE GIVEN ROWS OF THIS SEAT. 10 by the template 'for every input the law returns true; each argument reads behind the call as it read before'; 0 by the template 'total and deterministic' (their statements: YtmfffeoodlmnbaaTotals.lean).
  GIVEN WITH THE SEED: the statements are not yours to turn. If you find one false, say at which input.
  Laid BY PROGRAM, IN A SANDBOX (cutbox-rows.mjs): the forced cells as the released guide's own fill.sh prints them over the translation 93f25e0a3a83bb0b… (all of the seat's roots in one cut). By AI agents, Wed Nov 11 2026. No macro, syntax, notation, axiom, sorry.
-/
import Derived.Test.YtmfffeoodlmnbaaChecked
import GoSem.Claim
import GoSem.ClaimJoined
import GoSem.ClaimMapViews
import Derived.JoinedTies
import Derived.KernelRfl
namespace Go.Proofs.Ytmfffeoodlmnbaa
/- THE CELL 'sum', in the pinned program and in every row, IS THE sha256 OF THE DUMP (.gsa) THAT YtmfffeoodlmnbaaProg.lean LOADS. Nothing in Lean hashes anything: it is a label: what it is worth is what the hold of that sum in a sandbox is worth. -/
noncomputable def Try.pinned : Pinned := { name := "ytmfffeoodlmnbaa", sum := "93f25e0a3a83bb0b8aecd755ea484e75ee7d00085c2134498d5580afe419b54f", checked := Try.checked }
namespace Rows
def none {H : Type} : Left H := { results := [], args := [] }

/-- 'laws.FnCheckGood': WHATEVER THE INPUT: true; the input reads as it did. -/
def fnCheckGoodSpec : ChangeSpec := { name := "fnCheckGood", fn := fun _ => fun
  | [d1, d2] => { results := [.lit (.bool true)], args := [d1, d2] }
  | _ => none }
def fnCheckGoodRow : OpenClaim := { program := "ytmfffeoodlmnbaa", sum := "93f25e0a3a83bb0b8aecd755ea484e75ee7d00085c2134498d5580afe419b54f", func := "loop.example/pub-g01459/laws.FnCheckGood", spec := "fnCheckGood", apart := false }
def FnCheckGoodSaid : Prop := fnCheckGoodRow.holds Try.pinned (OpenSpec.ofChange fnCheckGoodSpec)

/-- ITS FALSE NEIGHBOUR: 'it returns false'. Refute it at one input. -/
def fnCheckGoodWrong : ChangeSpec := { name := "fnCheckGood", fn := fun _ => fun
  | [d1, d2] => { results := [.lit (.bool false)], args := [d1, d2] }
  | _ => none }
def FnCheckGoodWrongFalsely : Prop := fnCheckGoodRow.holds Try.pinned (OpenSpec.ofChange fnCheckGoodWrong)

/-- 'laws.FnBuildOverlap': WHATEVER THE INPUT: true; the input reads as it did. -/
def fnBuildOverlapSpec : ChangeSpec := { name := "fnBuildOverlap", fn := fun _ => fun
  | [d1, d2] => { results := [.lit (.bool true)], args := [d1, d2] }
  | _ => none }
def fnBuildOverlapRow : OpenClaim := { program := "ytmfffeoodlmnbaa", sum := "93f25e0a3a83bb0b8aecd755ea484e75ee7d00085c2134498d5580afe419b54f", func := "loop.example/pub-g01459/laws.FnBuildOverlap", spec := "fnBuildOverlap", apart := false }
def FnBuildOverlapSaid : Prop := fnBuildOverlapRow.holds Try.pinned (OpenSpec.ofChange fnBuildOverlapSpec)

/-- ITS FALSE NEIGHBOUR: 'it returns false'. Refute it at one input. -/
def fnBuildOverlapWrong : ChangeSpec := { name := "fnBuildOverlap", fn := fun _ => fun
  | [d1, d2] => { results := [.lit (.bool false)], args := [d1, d2] }
  | _ => none }
def FnBuildOverlapWrongFalsely : Prop := fnBuildOverlapRow.holds Try.pinned (OpenSpec.ofChange fnBuildOverlapWrong)

/-- 'laws.FnPairsParts': WHATEVER THE INPUT: true; the input reads as it did. -/
def fnPairsPartsSpec : ChangeSpec := { name := "fnPairsParts", fn := fun _ => fun
  | [d1, d2] => { results := [.lit (.bool true)], args := [d1, d2] }
  | _ => none }
def fnPairsPartsRow : OpenClaim := { program := "ytmfffeoodlmnbaa", sum := "93f25e0a3a83bb0b8aecd755ea484e75ee7d00085c2134498d5580afe419b54f", func := "loop.example/pub-g01459/laws.FnPairsParts", spec := "fnPairsParts", apart := false }
def FnPairsPartsSaid : Prop := fnPairsPartsRow.holds Try.pinned (OpenSpec.ofChange fnPairsPartsSpec)

/-- ITS FALSE NEIGHBOUR: 'it returns false'. Refute it at one input. -/
def fnPairsPartsWrong : ChangeSpec := { name := "fnPairsParts", fn := fun _ => fun
  | [d1, d2] => { results := [.lit (.bool false)], args := [d1, d2] }
  | _ => none }
def FnPairsPartsWrongFalsely : Prop := fnPairsPartsRow.holds Try.pinned (OpenSpec.ofChange fnPairsPartsWrong)

/-- 'laws.FnSetsOverlapOne': WHATEVER THE INPUT: true; the input reads as it did. -/
def fnSetsOverlapOneSpec : ChangeSpec := { name := "fnSetsOverlapOne", fn := fun _ => fun
  | [d1, d2] => { results := [.lit (.bool true)], args := [d1, d2] }
  | _ => none }
def fnSetsOverlapOneRow : OpenClaim := { program := "ytmfffeoodlmnbaa", sum := "93f25e0a3a83bb0b8aecd755ea484e75ee7d00085c2134498d5580afe419b54f", func := "loop.example/pub-g01459/laws.FnSetsOverlapOne", spec := "fnSetsOverlapOne", apart := false }
def FnSetsOverlapOneSaid : Prop := fnSetsOverlapOneRow.holds Try.pinned (OpenSpec.ofChange fnSetsOverlapOneSpec)

/-- ITS FALSE NEIGHBOUR: 'it returns false'. Refute it at one input. -/
def fnSetsOverlapOneWrong : ChangeSpec := { name := "fnSetsOverlapOne", fn := fun _ => fun
  | [d1, d2] => { results := [.lit (.bool false)], args := [d1, d2] }
  | _ => none }
def FnSetsOverlapOneWrongFalsely : Prop := fnSetsOverlapOneRow.holds Try.pinned (OpenSpec.ofChange fnSetsOverlapOneWrong)

/-- 'laws.FnSetsOverlapPlace': WHATEVER THE INPUT: true; the input reads as it did. -/
def fnSetsOverlapPlaceSpec : ChangeSpec := { name := "fnSetsOverlapPlace", fn := fun _ => fun
  | [d1, d2, d3] => { results := [.lit (.bool true)], args := [d1, d2, d3] }
  | _ => none }
def fnSetsOverlapPlaceRow : OpenClaim := { program := "ytmfffeoodlmnbaa", sum := "93f25e0a3a83bb0b8aecd755ea484e75ee7d00085c2134498d5580afe419b54f", func := "loop.example/pub-g01459/laws.FnSetsOverlapPlace", spec := "fnSetsOverlapPlace", apart := false }
def FnSetsOverlapPlaceSaid : Prop := fnSetsOverlapPlaceRow.holds Try.pinned (OpenSpec.ofChange fnSetsOverlapPlaceSpec)

/-- ITS FALSE NEIGHBOUR: 'it returns false'. Refute it at one input. -/
def fnSetsOverlapPlaceWrong : ChangeSpec := { name := "fnSetsOverlapPlace", fn := fun _ => fun
  | [d1, d2, d3] => { results := [.lit (.bool false)], args := [d1, d2, d3] }
  | _ => none }
def FnSetsOverlapPlaceWrongFalsely : Prop := fnSetsOverlapPlaceRow.holds Try.pinned (OpenSpec.ofChange fnSetsOverlapPlaceWrong)

/-- 'laws.FnMergeOrder': WHATEVER THE INPUT: true; the input reads as it did. -/
def fnMergeOrderSpec : ChangeSpec := { name := "fnMergeOrder", fn := fun _ => fun
  | [d1, d2] => { results := [.lit (.bool true)], args := [d1, d2] }
  | _ => none }
def fnMergeOrderRow : OpenClaim := { program := "ytmfffeoodlmnbaa", sum := "93f25e0a3a83bb0b8aecd755ea484e75ee7d00085c2134498d5580afe419b54f", func := "loop.example/pub-g01459/laws.FnMergeOrder", spec := "fnMergeOrder", apart := false }
def FnMergeOrderSaid : Prop := fnMergeOrderRow.holds Try.pinned (OpenSpec.ofChange fnMergeOrderSpec)

/-- ITS FALSE NEIGHBOUR: 'it returns false'. Refute it at one input. -/
def fnMergeOrderWrong : ChangeSpec := { name := "fnMergeOrder", fn := fun _ => fun
  | [d1, d2] => { results := [.lit (.bool false)], args := [d1, d2] }
  | _ => none }
def FnMergeOrderWrongFalsely : Prop := fnMergeOrderRow.holds Try.pinned (OpenSpec.ofChange fnMergeOrderWrong)

/-- 'laws.FnMergeOrdered': WHATEVER THE INPUT: true; the input reads as it did. -/
def fnMergeOrderedSpec : ChangeSpec := { name := "fnMergeOrdered", fn := fun _ => fun
  | [d1, d2] => { results := [.lit (.bool true)], args := [d1, d2] }
  | _ => none }
def fnMergeOrderedRow : OpenClaim := { program := "ytmfffeoodlmnbaa", sum := "93f25e0a3a83bb0b8aecd755ea484e75ee7d00085c2134498d5580afe419b54f", func := "loop.example/pub-g01459/laws.FnMergeOrdered", spec := "fnMergeOrdered", apart := false }
def FnMergeOrderedSaid : Prop := fnMergeOrderedRow.holds Try.pinned (OpenSpec.ofChange fnMergeOrderedSpec)

/-- ITS FALSE NEIGHBOUR: 'it returns false'. Refute it at one input. -/
def fnMergeOrderedWrong : ChangeSpec := { name := "fnMergeOrdered", fn := fun _ => fun
  | [d1, d2] => { results := [.lit (.bool false)], args := [d1, d2] }
  | _ => none }
def FnMergeOrderedWrongFalsely : Prop := fnMergeOrderedRow.holds Try.pinned (OpenSpec.ofChange fnMergeOrderedWrong)

/-- 'laws.FnMergeThree': WHATEVER THE INPUT: true; the input reads as it did. -/
def fnMergeThreeSpec : ChangeSpec := { name := "fnMergeThree", fn := fun _ => fun
  | [d1, d2, d3] => { results := [.lit (.bool true)], args := [d1, d2, d3] }
  | _ => none }
def fnMergeThreeRow : OpenClaim := { program := "ytmfffeoodlmnbaa", sum := "93f25e0a3a83bb0b8aecd755ea484e75ee7d00085c2134498d5580afe419b54f", func := "loop.example/pub-g01459/laws.FnMergeThree", spec := "fnMergeThree", apart := false }
def FnMergeThreeSaid : Prop := fnMergeThreeRow.holds Try.pinned (OpenSpec.ofChange fnMergeThreeSpec)

/-- ITS FALSE NEIGHBOUR: 'it returns false'. Refute it at one input. -/
def fnMergeThreeWrong : ChangeSpec := { name := "fnMergeThree", fn := fun _ => fun
  | [d1, d2, d3] => { results := [.lit (.bool false)], args := [d1, d2, d3] }
  | _ => none }
def FnMergeThreeWrongFalsely : Prop := fnMergeThreeRow.holds Try.pinned (OpenSpec.ofChange fnMergeThreeWrong)

/-- 'laws.FnBuildPlaces': WHATEVER THE INPUT: true; the input reads as it did. -/
def fnBuildPlacesSpec : ChangeSpec := { name := "fnBuildPlaces", fn := fun _ => fun
  | [d1, d2] => { results := [.lit (.bool true)], args := [d1, d2] }
  | _ => none }
def fnBuildPlacesRow : OpenClaim := { program := "ytmfffeoodlmnbaa", sum := "93f25e0a3a83bb0b8aecd755ea484e75ee7d00085c2134498d5580afe419b54f", func := "loop.example/pub-g01459/laws.FnBuildPlaces", spec := "fnBuildPlaces", apart := false }
def FnBuildPlacesSaid : Prop := fnBuildPlacesRow.holds Try.pinned (OpenSpec.ofChange fnBuildPlacesSpec)

/-- ITS FALSE NEIGHBOUR: 'it returns false'. Refute it at one input. -/
def fnBuildPlacesWrong : ChangeSpec := { name := "fnBuildPlaces", fn := fun _ => fun
  | [d1, d2] => { results := [.lit (.bool false)], args := [d1, d2] }
  | _ => none }
def FnBuildPlacesWrongFalsely : Prop := fnBuildPlacesRow.holds Try.pinned (OpenSpec.ofChange fnBuildPlacesWrong)

/-- 'laws.FnBuildGood': WHATEVER THE INPUT: true; the input reads as it did. -/
def fnBuildGoodSpec : ChangeSpec := { name := "fnBuildGood", fn := fun _ => fun
  | [d] => { results := [.lit (.bool true)], args := [d] }
  | _ => none }
def fnBuildGoodRow : OpenClaim := { program := "ytmfffeoodlmnbaa", sum := "93f25e0a3a83bb0b8aecd755ea484e75ee7d00085c2134498d5580afe419b54f", func := "loop.example/pub-g01459/laws.FnBuildGood", spec := "fnBuildGood", apart := false }
def FnBuildGoodSaid : Prop := fnBuildGoodRow.holds Try.pinned (OpenSpec.ofChange fnBuildGoodSpec)

/-- ITS FALSE NEIGHBOUR: 'it returns false'. Refute it at one input. -/
def fnBuildGoodWrong : ChangeSpec := { name := "fnBuildGood", fn := fun _ => fun
  | [d] => { results := [.lit (.bool false)], args := [d] }
  | _ => none }
def FnBuildGoodWrongFalsely : Prop := fnBuildGoodRow.holds Try.pinned (OpenSpec.ofChange fnBuildGoodWrong)

/- THE SECOND FORM. 'bulk': how many values and letters a reading holds, each counted each time it is reached (what is shared counts as often as it is met; a slice's spare places count too). A statement '..UptoSaid' is the law's where the arguments, and the package variables that the reading takes, are together of bulk at most 1048576: NARROWER than '..Said'. Prove '..Said' where nothing that the law and all that it calls make is longer than what came in: it says more and counts as full. Else prove '..UptoSaid'. A law counts once. -/
mutual
def uptoBulk {H : Type} : DataW H → Nat
  | .lit (.string bytes) => bytes.length + 1
  | .lit _ => 1
  | .nil => 1
  | .ptr d => uptoBulk d + 1
  | .slice elems spare => uptoBulkAll elems + uptoBulkAll spare + 1
  | .agg parts => uptoBulkAll parts + 1
  | .iface _ d => uptoBulk d + 1
  | .map entries => uptoBulkEntries entries + 1
  | .held _ => 1
def uptoBulkAll {H : Type} : List (DataW H) → Nat
  | [] => 0
  | d :: r => uptoBulk d + uptoBulkAll r
def uptoBulkEntries {H : Type} : List (Lit × DataW H) → Nat
  | [] => 0
  | x :: r => uptoBulkEntry x + uptoBulkEntries r
def uptoBulkEntry {H : Type} : Lit × DataW H → Nat
  | (.string bytes, d) => bytes.length + uptoBulk d + 1
  | (_, d) => uptoBulk d + 1
 end
def uptoSmall : (H : Type) → List (DataW H) → Bool := fun _ ds => decide (uptoBulkAll ds ≤ 1048576)
def OpenSpec.upto (s : _root_.Go.ChangeSpec) : _root_.Go.OpenSpec := { _root_.Go.OpenSpec.ofChange s with cond := some uptoSmall }

/-- 'laws.FnCheckGood', WHERE WHAT IT READS IS OF BULK AT MOST 1048576: true; the input reads as it did. -/
def fnCheckGoodUptoRow : OpenClaim := { program := "ytmfffeoodlmnbaa", sum := "93f25e0a3a83bb0b8aecd755ea484e75ee7d00085c2134498d5580afe419b54f", func := "loop.example/pub-g01459/laws.FnCheckGood", spec := "fnCheckGood", apart := false, narrowed := true }
def FnCheckGoodUptoSaid : Prop := fnCheckGoodUptoRow.holds Try.pinned (OpenSpec.upto fnCheckGoodSpec)

/-- 'laws.FnBuildOverlap', WHERE WHAT IT READS IS OF BULK AT MOST 1048576: true; the input reads as it did. -/
def fnBuildOverlapUptoRow : OpenClaim := { program := "ytmfffeoodlmnbaa", sum := "93f25e0a3a83bb0b8aecd755ea484e75ee7d00085c2134498d5580afe419b54f", func := "loop.example/pub-g01459/laws.FnBuildOverlap", spec := "fnBuildOverlap", apart := false, narrowed := true }
def FnBuildOverlapUptoSaid : Prop := fnBuildOverlapUptoRow.holds Try.pinned (OpenSpec.upto fnBuildOverlapSpec)

/-- 'laws.FnPairsParts', WHERE WHAT IT READS IS OF BULK AT MOST 1048576: true; the input reads as it did. -/
def fnPairsPartsUptoRow : OpenClaim := { program := "ytmfffeoodlmnbaa", sum := "93f25e0a3a83bb0b8aecd755ea484e75ee7d00085c2134498d5580afe419b54f", func := "loop.example/pub-g01459/laws.FnPairsParts", spec := "fnPairsParts", apart := false, narrowed := true }
def FnPairsPartsUptoSaid : Prop := fnPairsPartsUptoRow.holds Try.pinned (OpenSpec.upto fnPairsPartsSpec)

/-- 'laws.FnSetsOverlapOne', WHERE WHAT IT READS IS OF BULK AT MOST 1048576: true; the input reads as it did. -/
def fnSetsOverlapOneUptoRow : OpenClaim := { program := "ytmfffeoodlmnbaa", sum := "93f25e0a3a83bb0b8aecd755ea484e75ee7d00085c2134498d5580afe419b54f", func := "loop.example/pub-g01459/laws.FnSetsOverlapOne", spec := "fnSetsOverlapOne", apart := false, narrowed := true }
def FnSetsOverlapOneUptoSaid : Prop := fnSetsOverlapOneUptoRow.holds Try.pinned (OpenSpec.upto fnSetsOverlapOneSpec)

/-- 'laws.FnSetsOverlapPlace', WHERE WHAT IT READS IS OF BULK AT MOST 1048576: true; the input reads as it did. -/
def fnSetsOverlapPlaceUptoRow : OpenClaim := { program := "ytmfffeoodlmnbaa", sum := "93f25e0a3a83bb0b8aecd755ea484e75ee7d00085c2134498d5580afe419b54f", func := "loop.example/pub-g01459/laws.FnSetsOverlapPlace", spec := "fnSetsOverlapPlace", apart := false, narrowed := true }
def FnSetsOverlapPlaceUptoSaid : Prop := fnSetsOverlapPlaceUptoRow.holds Try.pinned (OpenSpec.upto fnSetsOverlapPlaceSpec)

/-- 'laws.FnMergeOrder', WHERE WHAT IT READS IS OF BULK AT MOST 1048576: true; the input reads as it did. -/
def fnMergeOrderUptoRow : OpenClaim := { program := "ytmfffeoodlmnbaa", sum := "93f25e0a3a83bb0b8aecd755ea484e75ee7d00085c2134498d5580afe419b54f", func := "loop.example/pub-g01459/laws.FnMergeOrder", spec := "fnMergeOrder", apart := false, narrowed := true }
def FnMergeOrderUptoSaid : Prop := fnMergeOrderUptoRow.holds Try.pinned (OpenSpec.upto fnMergeOrderSpec)

/-- 'laws.FnMergeOrdered', WHERE WHAT IT READS IS OF BULK AT MOST 1048576: true; the input reads as it did. -/
def fnMergeOrderedUptoRow : OpenClaim := { program := "ytmfffeoodlmnbaa", sum := "93f25e0a3a83bb0b8aecd755ea484e75ee7d00085c2134498d5580afe419b54f", func := "loop.example/pub-g01459/laws.FnMergeOrdered", spec := "fnMergeOrdered", apart := false, narrowed := true }
def FnMergeOrderedUptoSaid : Prop := fnMergeOrderedUptoRow.holds Try.pinned (OpenSpec.upto fnMergeOrderedSpec)

/-- 'laws.FnMergeThree', WHERE WHAT IT READS IS OF BULK AT MOST 1048576: true; the input reads as it did. -/
def fnMergeThreeUptoRow : OpenClaim := { program := "ytmfffeoodlmnbaa", sum := "93f25e0a3a83bb0b8aecd755ea484e75ee7d00085c2134498d5580afe419b54f", func := "loop.example/pub-g01459/laws.FnMergeThree", spec := "fnMergeThree", apart := false, narrowed := true }
def FnMergeThreeUptoSaid : Prop := fnMergeThreeUptoRow.holds Try.pinned (OpenSpec.upto fnMergeThreeSpec)

/-- 'laws.FnBuildPlaces', WHERE WHAT IT READS IS OF BULK AT MOST 1048576: true; the input reads as it did. -/
def fnBuildPlacesUptoRow : OpenClaim := { program := "ytmfffeoodlmnbaa", sum := "93f25e0a3a83bb0b8aecd755ea484e75ee7d00085c2134498d5580afe419b54f", func := "loop.example/pub-g01459/laws.FnBuildPlaces", spec := "fnBuildPlaces", apart := false, narrowed := true }
def FnBuildPlacesUptoSaid : Prop := fnBuildPlacesUptoRow.holds Try.pinned (OpenSpec.upto fnBuildPlacesSpec)

/-- 'laws.FnBuildGood', WHERE WHAT IT READS IS OF BULK AT MOST 1048576: true; the input reads as it did. -/
def fnBuildGoodUptoRow : OpenClaim := { program := "ytmfffeoodlmnbaa", sum := "93f25e0a3a83bb0b8aecd755ea484e75ee7d00085c2134498d5580afe419b54f", func := "loop.example/pub-g01459/laws.FnBuildGood", spec := "fnBuildGood", apart := false, narrowed := true }
def FnBuildGoodUptoSaid : Prop := fnBuildGoodUptoRow.holds Try.pinned (OpenSpec.upto fnBuildGoodSpec)

end Rows
end Go.Proofs.Ytmfffeoodlmnbaa
