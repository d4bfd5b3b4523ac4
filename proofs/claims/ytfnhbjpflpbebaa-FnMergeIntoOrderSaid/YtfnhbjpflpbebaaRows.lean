/-
  No cell of these rows narrows 'for every input' (looked for: loops, veiled, ifaces, maps, wideKeys, modest, calm, conditions, laid).
  DERIVED. THE GIVEN ROWS OF THIS SEAT. 7 by the template 'for every input the law returns true; each argument reads behind the call as it read before'; 0 by the template 'total and deterministic' (their statements: YtfnhbjpflpbebaaTotals.lean).
  GIVEN WITH THE SEED: the statements are not yours to turn. If you find one false, say at which input.
  Laid BY PROGRAM, IN A SANDBOX (cutbox-rows.mjs): the forced cells as the released guide's own fill.sh prints them over the translation 602b2c14e27a6676… (all of the seat's roots in one cut). By AI agents, Wed Nov 11 2026. No macro, syntax, notation, axiom, sorry.
-/
import Derived.Test.YtfnhbjpflpbebaaChecked
import GoSem.Claim
import GoSem.ClaimJoined
import GoSem.ClaimMapViews
import Derived.JoinedTies
import Derived.KernelRfl
namespace Go.Proofs.Ytfnhbjpflpbebaa
/- THE CELL 'sum', in the pinned program and in every row, IS THE sha256 OF THE DUMP (.gsa) THAT YtfnhbjpflpbebaaProg.lean LOADS. Nothing in Lean hashes anything: it is a label: what it is worth is what the hold of that sum in a sandbox is worth. -/
noncomputable def Try.pinned : Pinned := { name := "ytfnhbjpflpbebaa", sum := "602b2c14e27a667684808e558bb7376b8d6eba623fd552601c6992a65abb7c2c", checked := Try.checked }
namespace Rows
def none {H : Type} : Left H := { results := [], args := [] }

/-- 'laws.FnAddCarry': WHATEVER THE INPUT: true; the input reads as it did. -/
def fnAddCarrySpec : ChangeSpec := { name := "fnAddCarry", fn := fun _ => fun
  | [d1, d2, d3] => { results := [.lit (.bool true)], args := [d1, d2, d3] }
  | _ => none }
def fnAddCarryRow : OpenClaim := { program := "ytfnhbjpflpbebaa", sum := "602b2c14e27a667684808e558bb7376b8d6eba623fd552601c6992a65abb7c2c", func := "loop.example/pub-g01459/laws.FnAddCarry", spec := "fnAddCarry", inPlace := ["math/bits.Add64"], apart := false }
def FnAddCarrySaid : Prop := fnAddCarryRow.holds Try.pinned (OpenSpec.ofChange fnAddCarrySpec)

/-- ITS FALSE NEIGHBOUR: 'it returns false'. Refute it at one input. -/
def fnAddCarryWrong : ChangeSpec := { name := "fnAddCarry", fn := fun _ => fun
  | [d1, d2, d3] => { results := [.lit (.bool false)], args := [d1, d2, d3] }
  | _ => none }
def FnAddCarryWrongFalsely : Prop := fnAddCarryRow.holds Try.pinned (OpenSpec.ofChange fnAddCarryWrong)

/-- 'laws.FnPowerLog': WHATEVER THE INPUT: true; the input reads as it did. -/
def fnPowerLogSpec : ChangeSpec := { name := "fnPowerLog", fn := fun _ => fun
  | [d] => { results := [.lit (.bool true)], args := [d] }
  | _ => none }
def fnPowerLogRow : OpenClaim := { program := "ytfnhbjpflpbebaa", sum := "602b2c14e27a667684808e558bb7376b8d6eba623fd552601c6992a65abb7c2c", func := "loop.example/pub-g01459/laws.FnPowerLog", spec := "fnPowerLog", apart := false }
def FnPowerLogSaid : Prop := fnPowerLogRow.holds Try.pinned (OpenSpec.ofChange fnPowerLogSpec)

/-- ITS FALSE NEIGHBOUR: 'it returns false'. Refute it at one input. -/
def fnPowerLogWrong : ChangeSpec := { name := "fnPowerLog", fn := fun _ => fun
  | [d] => { results := [.lit (.bool false)], args := [d] }
  | _ => none }
def FnPowerLogWrongFalsely : Prop := fnPowerLogRow.holds Try.pinned (OpenSpec.ofChange fnPowerLogWrong)

/-- 'laws.FnBitconMade': WHATEVER THE INPUT: true; the input reads as it did. -/
def fnBitconMadeSpec : ChangeSpec := { name := "fnBitconMade", fn := fun _ => fun
  | [d1, d2, d3] => { results := [.lit (.bool true)], args := [d1, d2, d3] }
  | _ => none }
def fnBitconMadeRow : OpenClaim := { program := "ytfnhbjpflpbebaa", sum := "602b2c14e27a667684808e558bb7376b8d6eba623fd552601c6992a65abb7c2c", func := "loop.example/pub-g01459/laws.FnBitconMade", spec := "fnBitconMade", apart := false }
def FnBitconMadeSaid : Prop := fnBitconMadeRow.holds Try.pinned (OpenSpec.ofChange fnBitconMadeSpec)

/-- ITS FALSE NEIGHBOUR: 'it returns false'. Refute it at one input. -/
def fnBitconMadeWrong : ChangeSpec := { name := "fnBitconMade", fn := fun _ => fun
  | [d1, d2, d3] => { results := [.lit (.bool false)], args := [d1, d2, d3] }
  | _ => none }
def FnBitconMadeWrongFalsely : Prop := fnBitconMadeRow.holds Try.pinned (OpenSpec.ofChange fnBitconMadeWrong)

/-- 'laws.FnSigned': WHATEVER THE INPUT: true; the input reads as it did. -/
def fnSignedSpec : ChangeSpec := { name := "fnSigned", fn := fun _ => fun
  | [d] => { results := [.lit (.bool true)], args := [d] }
  | _ => none }
def fnSignedRow : OpenClaim := { program := "ytfnhbjpflpbebaa", sum := "602b2c14e27a667684808e558bb7376b8d6eba623fd552601c6992a65abb7c2c", func := "loop.example/pub-g01459/laws.FnSigned", spec := "fnSigned", apart := false }
def FnSignedSaid : Prop := fnSignedRow.holds Try.pinned (OpenSpec.ofChange fnSignedSpec)

/-- ITS FALSE NEIGHBOUR: 'it returns false'. Refute it at one input. -/
def fnSignedWrong : ChangeSpec := { name := "fnSigned", fn := fun _ => fun
  | [d] => { results := [.lit (.bool false)], args := [d] }
  | _ => none }
def FnSignedWrongFalsely : Prop := fnSignedRow.holds Try.pinned (OpenSpec.ofChange fnSignedWrong)

/-- 'laws.FnLeadingZeros': WHATEVER THE INPUT: true; the input reads as it did. -/
def fnLeadingZerosSpec : ChangeSpec := { name := "fnLeadingZeros", fn := fun _ => fun
  | [d] => { results := [.lit (.bool true)], args := [d] }
  | _ => none }
def fnLeadingZerosRow : OpenClaim := { program := "ytfnhbjpflpbebaa", sum := "602b2c14e27a667684808e558bb7376b8d6eba623fd552601c6992a65abb7c2c", func := "loop.example/pub-g01459/laws.FnLeadingZeros", spec := "fnLeadingZeros", apart := false }
def FnLeadingZerosSaid : Prop := fnLeadingZerosRow.holds Try.pinned (OpenSpec.ofChange fnLeadingZerosSpec)

/-- ITS FALSE NEIGHBOUR: 'it returns false'. Refute it at one input. -/
def fnLeadingZerosWrong : ChangeSpec := { name := "fnLeadingZeros", fn := fun _ => fun
  | [d] => { results := [.lit (.bool false)], args := [d] }
  | _ => none }
def FnLeadingZerosWrongFalsely : Prop := fnLeadingZerosRow.holds Try.pinned (OpenSpec.ofChange fnLeadingZerosWrong)

/-- 'laws.FnMergeIntoIs': WHATEVER THE INPUT: true; the input reads as it did. -/
def fnMergeIntoIsSpec : ChangeSpec := { name := "fnMergeIntoIs", fn := fun _ => fun
  | [d1, d2] => { results := [.lit (.bool true)], args := [d1, d2] }
  | _ => none }
def fnMergeIntoIsRow : OpenClaim := { program := "ytfnhbjpflpbebaa", sum := "602b2c14e27a667684808e558bb7376b8d6eba623fd552601c6992a65abb7c2c", func := "loop.example/pub-g01459/laws.FnMergeIntoIs", spec := "fnMergeIntoIs", apart := false }
def FnMergeIntoIsSaid : Prop := fnMergeIntoIsRow.holds Try.pinned (OpenSpec.ofChange fnMergeIntoIsSpec)

/-- ITS FALSE NEIGHBOUR: 'it returns false'. Refute it at one input. -/
def fnMergeIntoIsWrong : ChangeSpec := { name := "fnMergeIntoIs", fn := fun _ => fun
  | [d1, d2] => { results := [.lit (.bool false)], args := [d1, d2] }
  | _ => none }
def FnMergeIntoIsWrongFalsely : Prop := fnMergeIntoIsRow.holds Try.pinned (OpenSpec.ofChange fnMergeIntoIsWrong)

/-- 'laws.FnMergeIntoOrder': WHATEVER THE INPUT: true; the input reads as it did. -/
def fnMergeIntoOrderSpec : ChangeSpec := { name := "fnMergeIntoOrder", fn := fun _ => fun
  | [d1, d2] => { results := [.lit (.bool true)], args := [d1, d2] }
  | _ => none }
def fnMergeIntoOrderRow : OpenClaim := { program := "ytfnhbjpflpbebaa", sum := "602b2c14e27a667684808e558bb7376b8d6eba623fd552601c6992a65abb7c2c", func := "loop.example/pub-g01459/laws.FnMergeIntoOrder", spec := "fnMergeIntoOrder", apart := false }
def FnMergeIntoOrderSaid : Prop := fnMergeIntoOrderRow.holds Try.pinned (OpenSpec.ofChange fnMergeIntoOrderSpec)

/-- ITS FALSE NEIGHBOUR: 'it returns false'. Refute it at one input. -/
def fnMergeIntoOrderWrong : ChangeSpec := { name := "fnMergeIntoOrder", fn := fun _ => fun
  | [d1, d2] => { results := [.lit (.bool false)], args := [d1, d2] }
  | _ => none }
def FnMergeIntoOrderWrongFalsely : Prop := fnMergeIntoOrderRow.holds Try.pinned (OpenSpec.ofChange fnMergeIntoOrderWrong)

/- THE SECOND FORM. 'bulk': how many values and letters a reading holds, each counted each time it is reached (what is shared counts as often as it is met; a slice's spare places count too). A statement '..UptoSaid' is the law's where the arguments, and the package variables that the reading takes, are together of bulk at most 1048576: NARROWER than '..Said'. Prove '..Said' where nothing that the law and all that it calls make is longer than what came in: it says more and counts as full. Else prove '..UptoSaid'. A law counts once. -/
mutual
def uptoBulk {H : Type} : DataW H → Nat
  | .lit (.string bytes) => bytes.length + 1
  | .lit _ => 1
  | .nil => 1
  | .ptr d => uptoBulk d + 1
  | .slice elems spare => uptoBulkAll elems + uptoBulkAll spare + 1
  | .agg parts => uptoBulkAll parts + 1
  | .iface _ d => uptoBulk d + 1
  | .map entries => uptoBulkEntries entries + 1
  | .held _ => 1
def uptoBulkAll {H : Type} : List (DataW H) → Nat
  | [] => 0
  | d :: r => uptoBulk d + uptoBulkAll r
def uptoBulkEntries {H : Type} : List (Lit × DataW H) → Nat
  | [] => 0
  | x :: r => uptoBulkEntry x + uptoBulkEntries r
def uptoBulkEntry {H : Type} : Lit × DataW H → Nat
  | (.string bytes, d) => bytes.length + uptoBulk d + 1
  | (_, d) => uptoBulk d + 1
 end
def uptoSmall : (H : Type) → List (DataW H) → Bool := fun _ ds => decide (uptoBulkAll ds ≤ 1048576)
def OpenSpec.upto (s : _root_.Go.ChangeSpec) : _root_.Go.OpenSpec := { _root_.Go.OpenSpec.ofChange s with cond := some uptoSmall }

/-- 'laws.FnAddCarry', WHERE WHAT IT READS IS OF BULK AT MOST 1048576: true; the input reads as it did. -/
def fnAddCarryUptoRow : OpenClaim := { program := "ytfnhbjpflpbebaa", sum := "602b2c14e27a667684808e558bb7376b8d6eba623fd552601c6992a65abb7c2c", func := "loop.example/pub-g01459/laws.FnAddCarry", spec := "fnAddCarry", inPlace := ["math/bits.Add64"], apart := false, narrowed := true }
def FnAddCarryUptoSaid : Prop := fnAddCarryUptoRow.holds Try.pinned (OpenSpec.upto fnAddCarrySpec)

/-- 'laws.FnPowerLog', WHERE WHAT IT READS IS OF BULK AT MOST 1048576: true; the input reads as it did. -/
def fnPowerLogUptoRow : OpenClaim := { program := "ytfnhbjpflpbebaa", sum := "602b2c14e27a667684808e558bb7376b8d6eba623fd552601c6992a65abb7c2c", func := "loop.example/pub-g01459/laws.FnPowerLog", spec := "fnPowerLog", apart := false, narrowed := true }
def FnPowerLogUptoSaid : Prop := fnPowerLogUptoRow.holds Try.pinned (OpenSpec.upto fnPowerLogSpec)

/-- 'laws.FnBitconMade', WHERE WHAT IT READS IS OF BULK AT MOST 1048576: true; the input reads as it did. -/
def fnBitconMadeUptoRow : OpenClaim := { program := "ytfnhbjpflpbebaa", sum := "602b2c14e27a667684808e558bb7376b8d6eba623fd552601c6992a65abb7c2c", func := "loop.example/pub-g01459/laws.FnBitconMade", spec := "fnBitconMade", apart := false, narrowed := true }
def FnBitconMadeUptoSaid : Prop := fnBitconMadeUptoRow.holds Try.pinned (OpenSpec.upto fnBitconMadeSpec)

/-- 'laws.FnSigned', WHERE WHAT IT READS IS OF BULK AT MOST 1048576: true; the input reads as it did. -/
def fnSignedUptoRow : OpenClaim := { program := "ytfnhbjpflpbebaa", sum := "602b2c14e27a667684808e558bb7376b8d6eba623fd552601c6992a65abb7c2c", func := "loop.example/pub-g01459/laws.FnSigned", spec := "fnSigned", apart := false, narrowed := true }
def FnSignedUptoSaid : Prop := fnSignedUptoRow.holds Try.pinned (OpenSpec.upto fnSignedSpec)

/-- 'laws.FnLeadingZeros', WHERE WHAT IT READS IS OF BULK AT MOST 1048576: true; the input reads as it did. -/
def fnLeadingZerosUptoRow : OpenClaim := { program := "ytfnhbjpflpbebaa", sum := "602b2c14e27a667684808e558bb7376b8d6eba623fd552601c6992a65abb7c2c", func := "loop.example/pub-g01459/laws.FnLeadingZeros", spec := "fnLeadingZeros", apart := false, narrowed := true }
def FnLeadingZerosUptoSaid : Prop := fnLeadingZerosUptoRow.holds Try.pinned (OpenSpec.upto fnLeadingZerosSpec)

/-- 'laws.FnMergeIntoIs', WHERE WHAT IT READS IS OF BULK AT MOST 1048576: true; the input reads as it did. -/
def fnMergeIntoIsUptoRow : OpenClaim := { program := "ytfnhbjpflpbebaa", sum := "602b2c14e27a667684808e558bb7376b8d6eba623fd552601c6992a65abb7c2c", func := "loop.example/pub-g01459/laws.FnMergeIntoIs", spec := "fnMergeIntoIs", apart := false, narrowed := true }
def FnMergeIntoIsUptoSaid : Prop := fnMergeIntoIsUptoRow.holds Try.pinned (OpenSpec.upto fnMergeIntoIsSpec)

/-- 'laws.FnMergeIntoOrder', WHERE WHAT IT READS IS OF BULK AT MOST 1048576: true; the input reads as it did. -/
def fnMergeIntoOrderUptoRow : OpenClaim := { program := "ytfnhbjpflpbebaa", sum := "602b2c14e27a667684808e558bb7376b8d6eba623fd552601c6992a65abb7c2c", func := "loop.example/pub-g01459/laws.FnMergeIntoOrder", spec := "fnMergeIntoOrder", apart := false, narrowed := true }
def FnMergeIntoOrderUptoSaid : Prop := fnMergeIntoOrderUptoRow.holds Try.pinned (OpenSpec.upto fnMergeIntoOrderSpec)

end Rows
end Go.Proofs.Ytfnhbjpflpbebaa
