/-
  No cell of these rows narrows 'for every input' (looked for: loops, veiled, ifaces, maps, wideKeys, modest, calm, conditions, laid).
  DERIVED. THE GIVEN ROWS OF THIS SEAT. 5 by the template 'for every input the law returns true; each argument reads behind the call as it read before'; 0 by the template 'total and deterministic' (their statements: YtmldgakbkachpaaTotals.lean).
  GIVEN WITH THE SEED: the statements are not yours to turn. If you find one false, say at which input.
  Laid BY PROGRAM, IN A SANDBOX (cutbox-rows.mjs): the forced cells as the released guide's own fill.sh prints them over the translation 0a9774279acf0546… (all of the seat's roots in one cut). By AI agents, Wed Nov 11 2026. No macro, syntax, notation, axiom, sorry.
-/
import Derived.Test.YtmldgakbkachpaaChecked
import GoSem.Claim
import GoSem.ClaimJoined
import GoSem.ClaimMapViews
import Derived.JoinedTies
import Derived.KernelRfl
namespace Go.Proofs.Ytmldgakbkachpaa
/- THE CELL 'sum', in the pinned program and in every row, IS THE sha256 OF THE DUMP (.gsa) THAT YtmldgakbkachpaaProg.lean LOADS. Nothing in Lean hashes anything: it is a label: what it is worth is what the hold of that sum in a sandbox is worth. -/
noncomputable def Try.pinned : Pinned := { name := "ytmldgakbkachpaa", sum := "0a9774279acf0546440d44e356a32a1923f2454bb894de644d02a1c10b29394c", checked := Try.checked }
namespace Rows
def none {H : Type} : Left H := { results := [], args := [] }

/-- 'laws.FnRShiftMask': WHATEVER THE INPUT: true; the input reads as it did. -/
def fnRShiftMaskSpec : ChangeSpec := { name := "fnRShiftMask", fn := fun _ => fun
  | [d1, d2, d3] => { results := [.lit (.bool true)], args := [d1, d2, d3] }
  | _ => none }
def fnRShiftMaskRow : OpenClaim := { program := "ytmldgakbkachpaa", sum := "0a9774279acf0546440d44e356a32a1923f2454bb894de644d02a1c10b29394c", func := "loop.example/pub-g01459/laws.FnRShiftMask", spec := "fnRShiftMask", apart := false }
def FnRShiftMaskSaid : Prop := fnRShiftMaskRow.holds Try.pinned (OpenSpec.ofChange fnRShiftMaskSpec)

/-- ITS FALSE NEIGHBOUR: 'it returns false'. Refute it at one input. -/
def fnRShiftMaskWrong : ChangeSpec := { name := "fnRShiftMask", fn := fun _ => fun
  | [d1, d2, d3] => { results := [.lit (.bool false)], args := [d1, d2, d3] }
  | _ => none }
def FnRShiftMaskWrongFalsely : Prop := fnRShiftMaskRow.holds Try.pinned (OpenSpec.ofChange fnRShiftMaskWrong)

/-- 'laws.FnRotateMaskWhole': WHATEVER THE INPUT: true; the input reads as it did. -/
def fnRotateMaskWholeSpec : ChangeSpec := { name := "fnRotateMaskWhole", fn := fun _ => fun
  | [d] => { results := [.lit (.bool true)], args := [d] }
  | _ => none }
def fnRotateMaskWholeRow : OpenClaim := { program := "ytmldgakbkachpaa", sum := "0a9774279acf0546440d44e356a32a1923f2454bb894de644d02a1c10b29394c", func := "loop.example/pub-g01459/laws.FnRotateMaskWhole", spec := "fnRotateMaskWhole", apart := false }
def FnRotateMaskWholeSaid : Prop := fnRotateMaskWholeRow.holds Try.pinned (OpenSpec.ofChange fnRotateMaskWholeSpec)

/-- ITS FALSE NEIGHBOUR: 'it returns false'. Refute it at one input. -/
def fnRotateMaskWholeWrong : ChangeSpec := { name := "fnRotateMaskWhole", fn := fun _ => fun
  | [d] => { results := [.lit (.bool false)], args := [d] }
  | _ => none }
def FnRotateMaskWholeWrongFalsely : Prop := fnRotateMaskWholeRow.holds Try.pinned (OpenSpec.ofChange fnRotateMaskWholeWrong)

/-- 'laws.FnRotateMaskIs': WHATEVER THE INPUT: true; the input reads as it did. -/
def fnRotateMaskIsSpec : ChangeSpec := { name := "fnRotateMaskIs", fn := fun _ => fun
  | [d] => { results := [.lit (.bool true)], args := [d] }
  | _ => none }
def fnRotateMaskIsRow : OpenClaim := { program := "ytmldgakbkachpaa", sum := "0a9774279acf0546440d44e356a32a1923f2454bb894de644d02a1c10b29394c", func := "loop.example/pub-g01459/laws.FnRotateMaskIs", spec := "fnRotateMaskIs", apart := false }
def FnRotateMaskIsSaid : Prop := fnRotateMaskIsRow.holds Try.pinned (OpenSpec.ofChange fnRotateMaskIsSpec)

/-- ITS FALSE NEIGHBOUR: 'it returns false'. Refute it at one input. -/
def fnRotateMaskIsWrong : ChangeSpec := { name := "fnRotateMaskIs", fn := fun _ => fun
  | [d] => { results := [.lit (.bool false)], args := [d] }
  | _ => none }
def FnRotateMaskIsWrongFalsely : Prop := fnRotateMaskIsRow.holds Try.pinned (OpenSpec.ofChange fnRotateMaskIsWrong)

/-- 'laws.FnShiftParts': WHATEVER THE INPUT: true; the input reads as it did. -/
def fnShiftPartsSpec : ChangeSpec := { name := "fnShiftParts", fn := fun _ => fun
  | [d1, d2, d3, d4] => { results := [.lit (.bool true)], args := [d1, d2, d3, d4] }
  | _ => none }
def fnShiftPartsRow : OpenClaim := { program := "ytmldgakbkachpaa", sum := "0a9774279acf0546440d44e356a32a1923f2454bb894de644d02a1c10b29394c", func := "loop.example/pub-g01459/laws.FnShiftParts", spec := "fnShiftParts", apart := false }
def FnShiftPartsSaid : Prop := fnShiftPartsRow.holds Try.pinned (OpenSpec.ofChange fnShiftPartsSpec)

/-- ITS FALSE NEIGHBOUR: 'it returns false'. Refute it at one input. -/
def fnShiftPartsWrong : ChangeSpec := { name := "fnShiftParts", fn := fun _ => fun
  | [d1, d2, d3, d4] => { results := [.lit (.bool false)], args := [d1, d2, d3, d4] }
  | _ => none }
def FnShiftPartsWrongFalsely : Prop := fnShiftPartsRow.holds Try.pinned (OpenSpec.ofChange fnShiftPartsWrong)

/-- 'laws.FnShiftMaskMade': WHATEVER THE INPUT: true; the input reads as it did. -/
def fnShiftMaskMadeSpec : ChangeSpec := { name := "fnShiftMaskMade", fn := fun _ => fun
  | [d] => { results := [.lit (.bool true)], args := [d] }
  | _ => none }
def fnShiftMaskMadeRow : OpenClaim := { program := "ytmldgakbkachpaa", sum := "0a9774279acf0546440d44e356a32a1923f2454bb894de644d02a1c10b29394c", func := "loop.example/pub-g01459/laws.FnShiftMaskMade", spec := "fnShiftMaskMade", apart := false }
def FnShiftMaskMadeSaid : Prop := fnShiftMaskMadeRow.holds Try.pinned (OpenSpec.ofChange fnShiftMaskMadeSpec)

/-- ITS FALSE NEIGHBOUR: 'it returns false'. Refute it at one input. -/
def fnShiftMaskMadeWrong : ChangeSpec := { name := "fnShiftMaskMade", fn := fun _ => fun
  | [d] => { results := [.lit (.bool false)], args := [d] }
  | _ => none }
def FnShiftMaskMadeWrongFalsely : Prop := fnShiftMaskMadeRow.holds Try.pinned (OpenSpec.ofChange fnShiftMaskMadeWrong)

/- THE SECOND FORM. 'bulk': how many values and letters a reading holds, each counted each time it is reached (what is shared counts as often as it is met; a slice's spare places count too). A statement '..UptoSaid' is the law's where the arguments, and the package variables that the reading takes, are together of bulk at most 1048576: NARROWER than '..Said'. Prove '..Said' where nothing that the law and all that it calls make is longer than what came in: it says more and counts as full. Else prove '..UptoSaid'. A law counts once. -/
mutual
def uptoBulk {H : Type} : DataW H → Nat
  | .lit (.string bytes) => bytes.length + 1
  | .lit _ => 1
  | .nil => 1
  | .ptr d => uptoBulk d + 1
  | .slice elems spare => uptoBulkAll elems + uptoBulkAll spare + 1
  | .agg parts => uptoBulkAll parts + 1
  | .iface _ d => uptoBulk d + 1
  | .map entries => uptoBulkEntries entries + 1
  | .held _ => 1
def uptoBulkAll {H : Type} : List (DataW H) → Nat
  | [] => 0
  | d :: r => uptoBulk d + uptoBulkAll r
def uptoBulkEntries {H : Type} : List (Lit × DataW H) → Nat
  | [] => 0
  | x :: r => uptoBulkEntry x + uptoBulkEntries r
def uptoBulkEntry {H : Type} : Lit × DataW H → Nat
  | (.string bytes, d) => bytes.length + uptoBulk d + 1
  | (_, d) => uptoBulk d + 1
 end
def uptoSmall : (H : Type) → List (DataW H) → Bool := fun _ ds => decide (uptoBulkAll ds ≤ 1048576)
def OpenSpec.upto (s : _root_.Go.ChangeSpec) : _root_.Go.OpenSpec := { _root_.Go.OpenSpec.ofChange s with cond := some uptoSmall }

/-- 'laws.FnRShiftMask', WHERE WHAT IT READS IS OF BULK AT MOST 1048576: true; the input reads as it did. -/
def fnRShiftMaskUptoRow : OpenClaim := { program := "ytmldgakbkachpaa", sum := "0a9774279acf0546440d44e356a32a1923f2454bb894de644d02a1c10b29394c", func := "loop.example/pub-g01459/laws.FnRShiftMask", spec := "fnRShiftMask", apart := false, narrowed := true }
def FnRShiftMaskUptoSaid : Prop := fnRShiftMaskUptoRow.holds Try.pinned (OpenSpec.upto fnRShiftMaskSpec)

/-- 'laws.FnRotateMaskWhole', WHERE WHAT IT READS IS OF BULK AT MOST 1048576: true; the input reads as it did. -/
def fnRotateMaskWholeUptoRow : OpenClaim := { program := "ytmldgakbkachpaa", sum := "0a9774279acf0546440d44e356a32a1923f2454bb894de644d02a1c10b29394c", func := "loop.example/pub-g01459/laws.FnRotateMaskWhole", spec := "fnRotateMaskWhole", apart := false, narrowed := true }
def FnRotateMaskWholeUptoSaid : Prop := fnRotateMaskWholeUptoRow.holds Try.pinned (OpenSpec.upto fnRotateMaskWholeSpec)

/-- 'laws.FnRotateMaskIs', WHERE WHAT IT READS IS OF BULK AT MOST 1048576: true; the input reads as it did. -/
def fnRotateMaskIsUptoRow : OpenClaim := { program := "ytmldgakbkachpaa", sum := "0a9774279acf0546440d44e356a32a1923f2454bb894de644d02a1c10b29394c", func := "loop.example/pub-g01459/laws.FnRotateMaskIs", spec := "fnRotateMaskIs", apart := false, narrowed := true }
def FnRotateMaskIsUptoSaid : Prop := fnRotateMaskIsUptoRow.holds Try.pinned (OpenSpec.upto fnRotateMaskIsSpec)

/-- 'laws.FnShiftParts', WHERE WHAT IT READS IS OF BULK AT MOST 1048576: true; the input reads as it did. -/
def fnShiftPartsUptoRow : OpenClaim := { program := "ytmldgakbkachpaa", sum := "0a9774279acf0546440d44e356a32a1923f2454bb894de644d02a1c10b29394c", func := "loop.example/pub-g01459/laws.FnShiftParts", spec := "fnShiftParts", apart := false, narrowed := true }
def FnShiftPartsUptoSaid : Prop := fnShiftPartsUptoRow.holds Try.pinned (OpenSpec.upto fnShiftPartsSpec)

/-- 'laws.FnShiftMaskMade', WHERE WHAT IT READS IS OF BULK AT MOST 1048576: true; the input reads as it did. -/
def fnShiftMaskMadeUptoRow : OpenClaim := { program := "ytmldgakbkachpaa", sum := "0a9774279acf0546440d44e356a32a1923f2454bb894de644d02a1c10b29394c", func := "loop.example/pub-g01459/laws.FnShiftMaskMade", spec := "fnShiftMaskMade", apart := false, narrowed := true }
def FnShiftMaskMadeUptoSaid : Prop := fnShiftMaskMadeUptoRow.holds Try.pinned (OpenSpec.upto fnShiftMaskMadeSpec)

end Rows
end Go.Proofs.Ytmldgakbkachpaa
