/-
  DERIVED. GIVEN WITH THE SEED: THE CARDS: each row of YtfnhbjpflpbebaaDoorRows.lean that lists a variable, with what it lists TIED to the program's text (the seventh form; the later family's looks); each row that meets fmt, with fmt's text TOLD by the authors' own Lean function (tested against real Go, not proved from fmt's source: count such statements apart). THE CARD IS WHAT COUNTS. Prove the row's statement (the work); the ties are given (YtfnhbjpflpbebaaDoorTie.lean); close each card by the builder's one call (the guide's Derived/Test/ToyasCard.lean, 'card_holds'). Laid BY PROGRAM, IN A SANDBOX (cutbox-door.mjs). By AI agents, Wed Nov 11 2026. No macro, syntax, notation, axiom, sorry.
-/
import Derived.Test.YtfnhbjpflpbebaaDoorRows
import GoSem.ClaimSeven
namespace Go.Proofs.YtfnhbjpflpbebaaDoor
namespace Rows

/-- THE TIED CARD OF 'laws.FnTrailingOnes'. -/
def fnTrailingOnesCard : Claim7 := { stood := { row := fnTrailingOnesRow, standIns := [], harness := (true, "fe39887a8935a07bf1fb3cfe45ce969e8e72902d08c9ba2aa323c4d806a41667"), looks := false }, kinds := [], alts := [], laidByText := true, laidKinds := [.data], laidTests := true, laidLooks := .later }
def FnTrailingOnesCardSaid : Prop := Claim7.holds Tryd.pinned (.plain (OpenSpec.ofChange fnTrailingOnesSpec)) fnTrailingOnesCard

/-- THE TIED CARD OF 'laws.FnBFMaskSound'. -/
def fnBFMaskSoundCard : Claim7 := { stood := { row := fnBFMaskSoundRow, standIns := [], harness := (true, "fe39887a8935a07bf1fb3cfe45ce969e8e72902d08c9ba2aa323c4d806a41667"), looks := false }, kinds := [], alts := [], laidByText := true, laidKinds := [.data], laidTests := true, laidLooks := .later }
def FnBFMaskSoundCardSaid : Prop := Claim7.holds Tryd.pinned (.plain (OpenSpec.ofChange fnBFMaskSoundSpec)) fnBFMaskSoundCard

/-- THE TIED CARD OF 'laws.FnZerosOfOne'. -/
def fnZerosOfOneCard : Claim7 := { stood := { row := fnZerosOfOneRow, standIns := [], harness := (true, "fe39887a8935a07bf1fb3cfe45ce969e8e72902d08c9ba2aa323c4d806a41667"), looks := false }, kinds := [], alts := [], laidByText := true, laidKinds := [.data], laidTests := true, laidLooks := .later }
def FnZerosOfOneCardSaid : Prop := Claim7.holds Tryd.pinned (.plain (OpenSpec.ofChange fnZerosOfOneSpec)) fnZerosOfOneCard

/-- THE SECOND FORM's CARD OF 'laws.FnTrailingOnes'. -/
def fnTrailingOnesUptoCard : Claim7 := { stood := { row := fnTrailingOnesUptoRow, standIns := [], harness := (true, "fe39887a8935a07bf1fb3cfe45ce969e8e72902d08c9ba2aa323c4d806a41667"), looks := false }, kinds := [], alts := [], laidByText := true, laidKinds := [.data], laidTests := true, laidLooks := .later }
def FnTrailingOnesUptoCardSaid : Prop := Claim7.holds Tryd.pinned (.plain (OpenSpec.upto fnTrailingOnesSpec)) fnTrailingOnesUptoCard

/-- THE SECOND FORM's CARD OF 'laws.FnBFMaskSound'. -/
def fnBFMaskSoundUptoCard : Claim7 := { stood := { row := fnBFMaskSoundUptoRow, standIns := [], harness := (true, "fe39887a8935a07bf1fb3cfe45ce969e8e72902d08c9ba2aa323c4d806a41667"), looks := false }, kinds := [], alts := [], laidByText := true, laidKinds := [.data], laidTests := true, laidLooks := .later }
def FnBFMaskSoundUptoCardSaid : Prop := Claim7.holds Tryd.pinned (.plain (OpenSpec.upto fnBFMaskSoundSpec)) fnBFMaskSoundUptoCard

/-- THE SECOND FORM's CARD OF 'laws.FnZerosOfOne'. -/
def fnZerosOfOneUptoCard : Claim7 := { stood := { row := fnZerosOfOneUptoRow, standIns := [], harness := (true, "fe39887a8935a07bf1fb3cfe45ce969e8e72902d08c9ba2aa323c4d806a41667"), looks := false }, kinds := [], alts := [], laidByText := true, laidKinds := [.data], laidTests := true, laidLooks := .later }
def FnZerosOfOneUptoCardSaid : Prop := Claim7.holds Tryd.pinned (.plain (OpenSpec.upto fnZerosOfOneSpec)) fnZerosOfOneUptoCard
end Rows
end Go.Proofs.YtfnhbjpflpbebaaDoor
