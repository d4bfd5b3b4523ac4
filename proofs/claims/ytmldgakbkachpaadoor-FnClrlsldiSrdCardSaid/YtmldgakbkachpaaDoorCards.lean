/-
  DERIVED. GIVEN WITH THE SEED: THE CARDS: each row of YtmldgakbkachpaaDoorRows.lean that lists a variable, with what it lists TIED to the program's text (the seventh form; the later family's looks); each row that meets fmt, with fmt's text TOLD by the authors' own Lean function (tested against real Go, not proved from fmt's source: count such statements apart). THE CARD IS WHAT COUNTS. Prove the row's statement (the work); the ties are given (YtmldgakbkachpaaDoorTie.lean); close each card by the builder's one call (the guide's Derived/Test/ToyasCard.lean, 'card_holds'). Laid BY PROGRAM, IN A SANDBOX (cutbox-door.mjs). By AI agents, Wed Nov 11 2026. No macro, syntax, notation, axiom, sorry.
-/
import Derived.Test.YtmldgakbkachpaaDoorRows
import GoSem.ClaimSeven
namespace Go.Proofs.YtmldgakbkachpaaDoor
namespace Rows

/-- THE TIED CARD OF 'laws.FnClrlsldiSrd'. -/
def fnClrlsldiSrdCard : Claim7 := { stood := { row := fnClrlsldiSrdRow, standIns := [], harness := (true, "b9be92c55e6f68ac7332e5f6485bb97a97f084cff1bb94e3f0ffcd66f8da9fe0"), looks := false }, kinds := [], alts := [], laidByText := true, laidKinds := [.data, .data], laidTests := true, laidLooks := .later }
def FnClrlsldiSrdCardSaid : Prop := Claim7.holds Tryd.pinned (.plain (OpenSpec.ofChange fnClrlsldiSrdSpec)) fnClrlsldiSrdCard

/-- THE TIED CARD OF 'laws.FnMergesFound'. -/
def fnMergesFoundCard : Claim7 := { stood := { row := fnMergesFoundRow, standIns := [], harness := (true, "b9be92c55e6f68ac7332e5f6485bb97a97f084cff1bb94e3f0ffcd66f8da9fe0"), looks := false }, kinds := [], alts := [], laidByText := true, laidKinds := [.data, .data], laidTests := true, laidLooks := .later }
def FnMergesFoundCardSaid : Prop := Claim7.holds Tryd.pinned (.plain (OpenSpec.ofChange fnMergesFoundSpec)) fnMergesFoundCard

/-- THE TIED CARD OF 'laws.FnEncodeDecode64'. -/
def fnEncodeDecode64Card : Claim7 := { stood := { row := fnEncodeDecode64Row, standIns := [], harness := (true, "b9be92c55e6f68ac7332e5f6485bb97a97f084cff1bb94e3f0ffcd66f8da9fe0"), looks := false }, kinds := [], alts := [], laidByText := true, laidKinds := [.data, .data], laidTests := true, laidLooks := .later }
def FnEncodeDecode64CardSaid : Prop := Claim7.holds Tryd.pinned (.plain (OpenSpec.ofChange fnEncodeDecode64Spec)) fnEncodeDecode64Card

/-- THE TIED CARD OF 'laws.FnSldiSrw'. -/
def fnSldiSrwCard : Claim7 := { stood := { row := fnSldiSrwRow, standIns := [], harness := (true, "b9be92c55e6f68ac7332e5f6485bb97a97f084cff1bb94e3f0ffcd66f8da9fe0"), looks := false }, kinds := [], alts := [], laidByText := true, laidKinds := [.data, .data], laidTests := true, laidLooks := .later }
def FnSldiSrwCardSaid : Prop := Claim7.holds Tryd.pinned (.plain (OpenSpec.ofChange fnSldiSrwSpec)) fnSldiSrwCard

/-- THE TIED CARD OF 'laws.FnMovwzreg'. -/
def fnMovwzregCard : Claim7 := { stood := { row := fnMovwzregRow, standIns := [], harness := (true, "b9be92c55e6f68ac7332e5f6485bb97a97f084cff1bb94e3f0ffcd66f8da9fe0"), looks := false }, kinds := [], alts := [], laidByText := true, laidKinds := [.data, .data], laidTests := true, laidLooks := .later }
def FnMovwzregCardSaid : Prop := Claim7.holds Tryd.pinned (.plain (OpenSpec.ofChange fnMovwzregSpec)) fnMovwzregCard

/-- THE TIED CARD OF 'laws.FnRlwinmAnd'. -/
def fnRlwinmAndCard : Claim7 := { stood := { row := fnRlwinmAndRow, standIns := [], harness := (true, "b9be92c55e6f68ac7332e5f6485bb97a97f084cff1bb94e3f0ffcd66f8da9fe0"), looks := false }, kinds := [], alts := [], laidByText := true, laidKinds := [.data, .data], laidTests := true, laidLooks := .later }
def FnRlwinmAndCardSaid : Prop := Claim7.holds Tryd.pinned (.plain (OpenSpec.ofChange fnRlwinmAndSpec)) fnRlwinmAndCard

/-- THE TIED CARD OF 'laws.FnAndSrdi'. -/
def fnAndSrdiCard : Claim7 := { stood := { row := fnAndSrdiRow, standIns := [], harness := (true, "b9be92c55e6f68ac7332e5f6485bb97a97f084cff1bb94e3f0ffcd66f8da9fe0"), looks := false }, kinds := [], alts := [], laidByText := true, laidKinds := [.data, .data], laidTests := true, laidLooks := .later }
def FnAndSrdiCardSaid : Prop := Claim7.holds Tryd.pinned (.plain (OpenSpec.ofChange fnAndSrdiSpec)) fnAndSrdiCard

/-- THE SECOND FORM's CARD OF 'laws.FnClrlsldiSrd'. -/
def fnClrlsldiSrdUptoCard : Claim7 := { stood := { row := fnClrlsldiSrdUptoRow, standIns := [], harness := (true, "b9be92c55e6f68ac7332e5f6485bb97a97f084cff1bb94e3f0ffcd66f8da9fe0"), looks := false }, kinds := [], alts := [], laidByText := true, laidKinds := [.data, .data], laidTests := true, laidLooks := .later }
def FnClrlsldiSrdUptoCardSaid : Prop := Claim7.holds Tryd.pinned (.plain (OpenSpec.upto fnClrlsldiSrdSpec)) fnClrlsldiSrdUptoCard

/-- THE SECOND FORM's CARD OF 'laws.FnMergesFound'. -/
def fnMergesFoundUptoCard : Claim7 := { stood := { row := fnMergesFoundUptoRow, standIns := [], harness := (true, "b9be92c55e6f68ac7332e5f6485bb97a97f084cff1bb94e3f0ffcd66f8da9fe0"), looks := false }, kinds := [], alts := [], laidByText := true, laidKinds := [.data, .data], laidTests := true, laidLooks := .later }
def FnMergesFoundUptoCardSaid : Prop := Claim7.holds Tryd.pinned (.plain (OpenSpec.upto fnMergesFoundSpec)) fnMergesFoundUptoCard

/-- THE SECOND FORM's CARD OF 'laws.FnEncodeDecode64'. -/
def fnEncodeDecode64UptoCard : Claim7 := { stood := { row := fnEncodeDecode64UptoRow, standIns := [], harness := (true, "b9be92c55e6f68ac7332e5f6485bb97a97f084cff1bb94e3f0ffcd66f8da9fe0"), looks := false }, kinds := [], alts := [], laidByText := true, laidKinds := [.data, .data], laidTests := true, laidLooks := .later }
def FnEncodeDecode64UptoCardSaid : Prop := Claim7.holds Tryd.pinned (.plain (OpenSpec.upto fnEncodeDecode64Spec)) fnEncodeDecode64UptoCard

/-- THE SECOND FORM's CARD OF 'laws.FnSldiSrw'. -/
def fnSldiSrwUptoCard : Claim7 := { stood := { row := fnSldiSrwUptoRow, standIns := [], harness := (true, "b9be92c55e6f68ac7332e5f6485bb97a97f084cff1bb94e3f0ffcd66f8da9fe0"), looks := false }, kinds := [], alts := [], laidByText := true, laidKinds := [.data, .data], laidTests := true, laidLooks := .later }
def FnSldiSrwUptoCardSaid : Prop := Claim7.holds Tryd.pinned (.plain (OpenSpec.upto fnSldiSrwSpec)) fnSldiSrwUptoCard

/-- THE SECOND FORM's CARD OF 'laws.FnMovwzreg'. -/
def fnMovwzregUptoCard : Claim7 := { stood := { row := fnMovwzregUptoRow, standIns := [], harness := (true, "b9be92c55e6f68ac7332e5f6485bb97a97f084cff1bb94e3f0ffcd66f8da9fe0"), looks := false }, kinds := [], alts := [], laidByText := true, laidKinds := [.data, .data], laidTests := true, laidLooks := .later }
def FnMovwzregUptoCardSaid : Prop := Claim7.holds Tryd.pinned (.plain (OpenSpec.upto fnMovwzregSpec)) fnMovwzregUptoCard

/-- THE SECOND FORM's CARD OF 'laws.FnRlwinmAnd'. -/
def fnRlwinmAndUptoCard : Claim7 := { stood := { row := fnRlwinmAndUptoRow, standIns := [], harness := (true, "b9be92c55e6f68ac7332e5f6485bb97a97f084cff1bb94e3f0ffcd66f8da9fe0"), looks := false }, kinds := [], alts := [], laidByText := true, laidKinds := [.data, .data], laidTests := true, laidLooks := .later }
def FnRlwinmAndUptoCardSaid : Prop := Claim7.holds Tryd.pinned (.plain (OpenSpec.upto fnRlwinmAndSpec)) fnRlwinmAndUptoCard

/-- THE SECOND FORM's CARD OF 'laws.FnAndSrdi'. -/
def fnAndSrdiUptoCard : Claim7 := { stood := { row := fnAndSrdiUptoRow, standIns := [], harness := (true, "b9be92c55e6f68ac7332e5f6485bb97a97f084cff1bb94e3f0ffcd66f8da9fe0"), looks := false }, kinds := [], alts := [], laidByText := true, laidKinds := [.data, .data], laidTests := true, laidLooks := .later }
def FnAndSrdiUptoCardSaid : Prop := Claim7.holds Tryd.pinned (.plain (OpenSpec.upto fnAndSrdiSpec)) fnAndSrdiUptoCard
end Rows
end Go.Proofs.YtmldgakbkachpaaDoor
