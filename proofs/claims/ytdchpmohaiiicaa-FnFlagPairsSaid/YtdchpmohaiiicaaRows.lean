/-
  No cell of these rows narrows 'for every input' (looked for: loops, veiled, ifaces, maps, wideKeys, modest, calm, conditions, laid).
  DERIVED. THE GIVEN ROWS OF THIS SEAT. 5 by the template 'for every input the law returns true; each argument reads behind the call as it read before'; 0 by the template 'total and deterministic' (their statements: YtdchpmohaiiicaaTotals.lean).
  GIVEN WITH THE SEED: the statements are not yours to turn. If you find one false, say at which input.
  Laid BY PROGRAM, IN A SANDBOX (cutbox-rows.mjs): the forced cells as the released guide's own fill.sh prints them over the translation d94af9971f709194… (all of the seat's roots in one cut). By AI agents, Wed Nov 11 2026. No macro, syntax, notation, axiom, sorry.
-/
import Derived.Test.YtdchpmohaiiicaaChecked
import GoSem.Claim
import GoSem.ClaimJoined
import GoSem.ClaimMapViews
import Derived.JoinedTies
import Derived.KernelRfl
namespace Go.Proofs.Ytdchpmohaiiicaa
/- THE CELL 'sum', in the pinned program and in every row, IS THE sha256 OF THE DUMP (.gsa) THAT YtdchpmohaiiicaaProg.lean LOADS. Nothing in Lean hashes anything: it is a label: what it is worth is what the hold of that sum in a sandbox is worth. -/
noncomputable def Try.pinned : Pinned := { name := "ytdchpmohaiiicaa", sum := "d94af9971f709194e474109dd7105c2faa064933294f9fba0e362dfa4e8a766c", checked := Try.checked }
namespace Rows
def none {H : Type} : Left H := { results := [], args := [] }

/-- 'laws.FnAddBits64': WHATEVER THE INPUT: true; the input reads as it did. -/
def fnAddBits64Spec : ChangeSpec := { name := "fnAddBits64", fn := fun _ => fun
  | [d1, d2] => { results := [.lit (.bool true)], args := [d1, d2] }
  | _ => none }
def fnAddBits64Row : OpenClaim := { program := "ytdchpmohaiiicaa", sum := "d94af9971f709194e474109dd7105c2faa064933294f9fba0e362dfa4e8a766c", func := "loop.example/pub-g01459/laws.FnAddBits64", spec := "fnAddBits64", apart := false }
def FnAddBits64Said : Prop := fnAddBits64Row.holds Try.pinned (OpenSpec.ofChange fnAddBits64Spec)

/-- ITS FALSE NEIGHBOUR: 'it returns false'. Refute it at one input. -/
def fnAddBits64Wrong : ChangeSpec := { name := "fnAddBits64", fn := fun _ => fun
  | [d1, d2] => { results := [.lit (.bool false)], args := [d1, d2] }
  | _ => none }
def FnAddBits64WrongFalsely : Prop := fnAddBits64Row.holds Try.pinned (OpenSpec.ofChange fnAddBits64Wrong)

/-- 'laws.FnSubBits32': WHATEVER THE INPUT: true; the input reads as it did. -/
def fnSubBits32Spec : ChangeSpec := { name := "fnSubBits32", fn := fun _ => fun
  | [d1, d2] => { results := [.lit (.bool true)], args := [d1, d2] }
  | _ => none }
def fnSubBits32Row : OpenClaim := { program := "ytdchpmohaiiicaa", sum := "d94af9971f709194e474109dd7105c2faa064933294f9fba0e362dfa4e8a766c", func := "loop.example/pub-g01459/laws.FnSubBits32", spec := "fnSubBits32", apart := false }
def FnSubBits32Said : Prop := fnSubBits32Row.holds Try.pinned (OpenSpec.ofChange fnSubBits32Spec)

/-- ITS FALSE NEIGHBOUR: 'it returns false'. Refute it at one input. -/
def fnSubBits32Wrong : ChangeSpec := { name := "fnSubBits32", fn := fun _ => fun
  | [d1, d2] => { results := [.lit (.bool false)], args := [d1, d2] }
  | _ => none }
def FnSubBits32WrongFalsely : Prop := fnSubBits32Row.holds Try.pinned (OpenSpec.ofChange fnSubBits32Wrong)

/-- 'laws.FnSubFlags32': WHATEVER THE INPUT: true; the input reads as it did. -/
def fnSubFlags32Spec : ChangeSpec := { name := "fnSubFlags32", fn := fun _ => fun
  | [d1, d2] => { results := [.lit (.bool true)], args := [d1, d2] }
  | _ => none }
def fnSubFlags32Row : OpenClaim := { program := "ytdchpmohaiiicaa", sum := "d94af9971f709194e474109dd7105c2faa064933294f9fba0e362dfa4e8a766c", func := "loop.example/pub-g01459/laws.FnSubFlags32", spec := "fnSubFlags32", apart := false }
def FnSubFlags32Said : Prop := fnSubFlags32Row.holds Try.pinned (OpenSpec.ofChange fnSubFlags32Spec)

/-- ITS FALSE NEIGHBOUR: 'it returns false'. Refute it at one input. -/
def fnSubFlags32Wrong : ChangeSpec := { name := "fnSubFlags32", fn := fun _ => fun
  | [d1, d2] => { results := [.lit (.bool false)], args := [d1, d2] }
  | _ => none }
def FnSubFlags32WrongFalsely : Prop := fnSubFlags32Row.holds Try.pinned (OpenSpec.ofChange fnSubFlags32Wrong)

/-- 'laws.FnSumFlags': WHATEVER THE INPUT: true; the input reads as it did. -/
def fnSumFlagsSpec : ChangeSpec := { name := "fnSumFlags", fn := fun _ => fun
  | [d1, d2] => { results := [.lit (.bool true)], args := [d1, d2] }
  | _ => none }
def fnSumFlagsRow : OpenClaim := { program := "ytdchpmohaiiicaa", sum := "d94af9971f709194e474109dd7105c2faa064933294f9fba0e362dfa4e8a766c", func := "loop.example/pub-g01459/laws.FnSumFlags", spec := "fnSumFlags", apart := false }
def FnSumFlagsSaid : Prop := fnSumFlagsRow.holds Try.pinned (OpenSpec.ofChange fnSumFlagsSpec)

/-- ITS FALSE NEIGHBOUR: 'it returns false'. Refute it at one input. -/
def fnSumFlagsWrong : ChangeSpec := { name := "fnSumFlags", fn := fun _ => fun
  | [d1, d2] => { results := [.lit (.bool false)], args := [d1, d2] }
  | _ => none }
def FnSumFlagsWrongFalsely : Prop := fnSumFlagsRow.holds Try.pinned (OpenSpec.ofChange fnSumFlagsWrong)

/-- 'laws.FnFlagPairs': WHATEVER THE INPUT: true; the input reads as it did. -/
def fnFlagPairsSpec : ChangeSpec := { name := "fnFlagPairs", fn := fun _ => fun
  | [d1, d2] => { results := [.lit (.bool true)], args := [d1, d2] }
  | _ => none }
def fnFlagPairsRow : OpenClaim := { program := "ytdchpmohaiiicaa", sum := "d94af9971f709194e474109dd7105c2faa064933294f9fba0e362dfa4e8a766c", func := "loop.example/pub-g01459/laws.FnFlagPairs", spec := "fnFlagPairs", apart := false }
def FnFlagPairsSaid : Prop := fnFlagPairsRow.holds Try.pinned (OpenSpec.ofChange fnFlagPairsSpec)

/-- ITS FALSE NEIGHBOUR: 'it returns false'. Refute it at one input. -/
def fnFlagPairsWrong : ChangeSpec := { name := "fnFlagPairs", fn := fun _ => fun
  | [d1, d2] => { results := [.lit (.bool false)], args := [d1, d2] }
  | _ => none }
def FnFlagPairsWrongFalsely : Prop := fnFlagPairsRow.holds Try.pinned (OpenSpec.ofChange fnFlagPairsWrong)

/- THE SECOND FORM. 'bulk': how many values and letters a reading holds, each counted each time it is reached (what is shared counts as often as it is met; a slice's spare places count too). A statement '..UptoSaid' is the law's where the arguments, and the package variables that the reading takes, are together of bulk at most 1048576: NARROWER than '..Said'. Prove '..Said' where nothing that the law and all that it calls make is longer than what came in: it says more and counts as full. Else prove '..UptoSaid'. A law counts once. -/
mutual
def uptoBulk {H : Type} : DataW H → Nat
  | .lit (.string bytes) => bytes.length + 1
  | .lit _ => 1
  | .nil => 1
  | .ptr d => uptoBulk d + 1
  | .slice elems spare => uptoBulkAll elems + uptoBulkAll spare + 1
  | .agg parts => uptoBulkAll parts + 1
  | .iface _ d => uptoBulk d + 1
  | .map entries => uptoBulkEntries entries + 1
  | .held _ => 1
def uptoBulkAll {H : Type} : List (DataW H) → Nat
  | [] => 0
  | d :: r => uptoBulk d + uptoBulkAll r
def uptoBulkEntries {H : Type} : List (Lit × DataW H) → Nat
  | [] => 0
  | x :: r => uptoBulkEntry x + uptoBulkEntries r
def uptoBulkEntry {H : Type} : Lit × DataW H → Nat
  | (.string bytes, d) => bytes.length + uptoBulk d + 1
  | (_, d) => uptoBulk d + 1
 end
def uptoSmall : (H : Type) → List (DataW H) → Bool := fun _ ds => decide (uptoBulkAll ds ≤ 1048576)
def OpenSpec.upto (s : _root_.Go.ChangeSpec) : _root_.Go.OpenSpec := { _root_.Go.OpenSpec.ofChange s with cond := some uptoSmall }

/-- 'laws.FnAddBits64', WHERE WHAT IT READS IS OF BULK AT MOST 1048576: true; the input reads as it did. -/
def fnAddBits64UptoRow : OpenClaim := { program := "ytdchpmohaiiicaa", sum := "d94af9971f709194e474109dd7105c2faa064933294f9fba0e362dfa4e8a766c", func := "loop.example/pub-g01459/laws.FnAddBits64", spec := "fnAddBits64", apart := false, narrowed := true }
def FnAddBits64UptoSaid : Prop := fnAddBits64UptoRow.holds Try.pinned (OpenSpec.upto fnAddBits64Spec)

/-- 'laws.FnSubBits32', WHERE WHAT IT READS IS OF BULK AT MOST 1048576: true; the input reads as it did. -/
def fnSubBits32UptoRow : OpenClaim := { program := "ytdchpmohaiiicaa", sum := "d94af9971f709194e474109dd7105c2faa064933294f9fba0e362dfa4e8a766c", func := "loop.example/pub-g01459/laws.FnSubBits32", spec := "fnSubBits32", apart := false, narrowed := true }
def FnSubBits32UptoSaid : Prop := fnSubBits32UptoRow.holds Try.pinned (OpenSpec.upto fnSubBits32Spec)

/-- 'laws.FnSubFlags32', WHERE WHAT IT READS IS OF BULK AT MOST 1048576: true; the input reads as it did. -/
def fnSubFlags32UptoRow : OpenClaim := { program := "ytdchpmohaiiicaa", sum := "d94af9971f709194e474109dd7105c2faa064933294f9fba0e362dfa4e8a766c", func := "loop.example/pub-g01459/laws.FnSubFlags32", spec := "fnSubFlags32", apart := false, narrowed := true }
def FnSubFlags32UptoSaid : Prop := fnSubFlags32UptoRow.holds Try.pinned (OpenSpec.upto fnSubFlags32Spec)

/-- 'laws.FnSumFlags', WHERE WHAT IT READS IS OF BULK AT MOST 1048576: true; the input reads as it did. -/
def fnSumFlagsUptoRow : OpenClaim := { program := "ytdchpmohaiiicaa", sum := "d94af9971f709194e474109dd7105c2faa064933294f9fba0e362dfa4e8a766c", func := "loop.example/pub-g01459/laws.FnSumFlags", spec := "fnSumFlags", apart := false, narrowed := true }
def FnSumFlagsUptoSaid : Prop := fnSumFlagsUptoRow.holds Try.pinned (OpenSpec.upto fnSumFlagsSpec)

/-- 'laws.FnFlagPairs', WHERE WHAT IT READS IS OF BULK AT MOST 1048576: true; the input reads as it did. -/
def fnFlagPairsUptoRow : OpenClaim := { program := "ytdchpmohaiiicaa", sum := "d94af9971f709194e474109dd7105c2faa064933294f9fba0e362dfa4e8a766c", func := "loop.example/pub-g01459/laws.FnFlagPairs", spec := "fnFlagPairs", apart := false, narrowed := true }
def FnFlagPairsUptoSaid : Prop := fnFlagPairsUptoRow.holds Try.pinned (OpenSpec.upto fnFlagPairsSpec)

end Rows
end Go.Proofs.Ytdchpmohaiiicaa
