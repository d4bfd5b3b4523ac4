/-
  No cell of these rows narrows 'for every input' (looked for: loops, veiled, ifaces, maps, wideKeys, modest, calm, conditions, laid).
  DERIVED. THE GIVEN ROWS OF THIS SEAT. 2 by the template 'for every input the law returns true; each argument reads behind the call as it read before'; 0 by the template 'total and deterministic' (their statements: YtghjjcglapfjmaaTotals.lean).
  GIVEN WITH THE SEED: the statements are not yours to turn. If you find one false, say at which input.
  Laid BY PROGRAM, IN A SANDBOX (cutbox-rows.mjs): the forced cells as the released guide's own fill.sh prints them over the translation a77c1d538b690714… (all of the seat's roots in one cut). By AI agents, Wed Nov 11 2026. No macro, syntax, notation, axiom, sorry.
-/
import Derived.Test.YtghjjcglapfjmaaChecked
import GoSem.Claim
import GoSem.ClaimJoined
import GoSem.ClaimMapViews
import Derived.JoinedTies
import Derived.KernelRfl
namespace Go.Proofs.Ytghjjcglapfjmaa
/- THE CELL 'sum', in the pinned program and in every row, IS THE sha256 OF THE DUMP (.gsa) THAT YtghjjcglapfjmaaProg.lean LOADS. Nothing in Lean hashes anything: it is a label: what it is worth is what the hold of that sum in a sandbox is worth. -/
noncomputable def Try.pinned : Pinned := { name := "ytghjjcglapfjmaa", sum := "a77c1d538b6907141ce68a56ad5fe2c745f9c92f4dae23d3722501b50cb01f0c", checked := Try.checked }
namespace Rows
def none {H : Type} : Left H := { results := [], args := [] }

/-- 'laws.FnSequenceIs': WHATEVER THE INPUT: true; the input reads as it did. -/
def fnSequenceIsSpec : ChangeSpec := { name := "fnSequenceIs", fn := fun _ => fun
  | [d] => { results := [.lit (.bool true)], args := [d] }
  | _ => none }
def fnSequenceIsRow : OpenClaim := { program := "ytghjjcglapfjmaa", sum := "a77c1d538b6907141ce68a56ad5fe2c745f9c92f4dae23d3722501b50cb01f0c", func := "loop.example/pub-g01459/laws.FnSequenceIs", spec := "fnSequenceIs", apart := false }
def FnSequenceIsSaid : Prop := fnSequenceIsRow.holds Try.pinned (OpenSpec.ofChange fnSequenceIsSpec)

/-- ITS FALSE NEIGHBOUR: 'it returns false'. Refute it at one input. -/
def fnSequenceIsWrong : ChangeSpec := { name := "fnSequenceIs", fn := fun _ => fun
  | [d] => { results := [.lit (.bool false)], args := [d] }
  | _ => none }
def FnSequenceIsWrongFalsely : Prop := fnSequenceIsRow.holds Try.pinned (OpenSpec.ofChange fnSequenceIsWrong)

/-- 'laws.FnRotateMaskWhole': WHATEVER THE INPUT: true; the input reads as it did. -/
def fnRotateMaskWholeSpec : ChangeSpec := { name := "fnRotateMaskWhole", fn := fun _ => fun
  | [d] => { results := [.lit (.bool true)], args := [d] }
  | _ => none }
def fnRotateMaskWholeRow : OpenClaim := { program := "ytghjjcglapfjmaa", sum := "a77c1d538b6907141ce68a56ad5fe2c745f9c92f4dae23d3722501b50cb01f0c", func := "loop.example/pub-g01459/laws.FnRotateMaskWhole", spec := "fnRotateMaskWhole", apart := false }
def FnRotateMaskWholeSaid : Prop := fnRotateMaskWholeRow.holds Try.pinned (OpenSpec.ofChange fnRotateMaskWholeSpec)

/-- ITS FALSE NEIGHBOUR: 'it returns false'. Refute it at one input. -/
def fnRotateMaskWholeWrong : ChangeSpec := { name := "fnRotateMaskWhole", fn := fun _ => fun
  | [d] => { results := [.lit (.bool false)], args := [d] }
  | _ => none }
def FnRotateMaskWholeWrongFalsely : Prop := fnRotateMaskWholeRow.holds Try.pinned (OpenSpec.ofChange fnRotateMaskWholeWrong)

/- THE SECOND FORM. 'bulk': how many values and letters a reading holds, each counted each time it is reached (what is shared counts as often as it is met; a slice's spare places count too). A statement '..UptoSaid' is the law's where the arguments, and the package variables that the reading takes, are together of bulk at most 1048576: NARROWER than '..Said'. Prove '..Said' where nothing that the law and all that it calls make is longer than what came in: it says more and counts as full. Else prove '..UptoSaid'. A law counts once. -/
mutual
def uptoBulk {H : Type} : DataW H → Nat
  | .lit (.string bytes) => bytes.length + 1
  | .lit _ => 1
  | .nil => 1
  | .ptr d => uptoBulk d + 1
  | .slice elems spare => uptoBulkAll elems + uptoBulkAll spare + 1
  | .agg parts => uptoBulkAll parts + 1
  | .iface _ d => uptoBulk d + 1
  | .map entries => uptoBulkEntries entries + 1
  | .held _ => 1
def uptoBulkAll {H : Type} : List (DataW H) → Nat
  | [] => 0
  | d :: r => uptoBulk d + uptoBulkAll r
def uptoBulkEntries {H : Type} : List (Lit × DataW H) → Nat
  | [] => 0
  | x :: r => uptoBulkEntry x + uptoBulkEntries r
def uptoBulkEntry {H : Type} : Lit × DataW H → Nat
  | (.string bytes, d) => bytes.length + uptoBulk d + 1
  | (_, d) => uptoBulk d + 1
 end
def uptoSmall : (H : Type) → List (DataW H) → Bool := fun _ ds => decide (uptoBulkAll ds ≤ 1048576)
def OpenSpec.upto (s : _root_.Go.ChangeSpec) : _root_.Go.OpenSpec := { _root_.Go.OpenSpec.ofChange s with cond := some uptoSmall }

/-- 'laws.FnSequenceIs', WHERE WHAT IT READS IS OF BULK AT MOST 1048576: true; the input reads as it did. -/
def fnSequenceIsUptoRow : OpenClaim := { program := "ytghjjcglapfjmaa", sum := "a77c1d538b6907141ce68a56ad5fe2c745f9c92f4dae23d3722501b50cb01f0c", func := "loop.example/pub-g01459/laws.FnSequenceIs", spec := "fnSequenceIs", apart := false, narrowed := true }
def FnSequenceIsUptoSaid : Prop := fnSequenceIsUptoRow.holds Try.pinned (OpenSpec.upto fnSequenceIsSpec)

/-- 'laws.FnRotateMaskWhole', WHERE WHAT IT READS IS OF BULK AT MOST 1048576: true; the input reads as it did. -/
def fnRotateMaskWholeUptoRow : OpenClaim := { program := "ytghjjcglapfjmaa", sum := "a77c1d538b6907141ce68a56ad5fe2c745f9c92f4dae23d3722501b50cb01f0c", func := "loop.example/pub-g01459/laws.FnRotateMaskWhole", spec := "fnRotateMaskWhole", apart := false, narrowed := true }
def FnRotateMaskWholeUptoSaid : Prop := fnRotateMaskWholeUptoRow.holds Try.pinned (OpenSpec.upto fnRotateMaskWholeSpec)

end Rows
end Go.Proofs.Ytghjjcglapfjmaa
