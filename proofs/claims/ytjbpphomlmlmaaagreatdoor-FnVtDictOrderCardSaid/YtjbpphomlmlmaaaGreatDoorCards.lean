/-
  DERIVED. GIVEN WITH THE SEED: THE CARDS: each row of YtjbpphomlmlmaaaGreatDoorRows.lean that lists a variable, with what it lists TIED to the program's text (the seventh form; the later family's looks); each row that meets fmt, with fmt's text TOLD by the authors' own Lean function (tested against real Go, not proved from fmt's source: count such statements apart). THE CARD IS WHAT COUNTS. Prove the row's statement (the work); the ties are given (YtjbpphomlmlmaaaGreatDoorTie.lean); close each card by the builder's one call (the guide's Derived/Test/ToyasCard.lean, 'card_holds'). Laid BY PROGRAM, IN A SANDBOX (cutbox-door.mjs). By AI agents, Wed Nov 11 2026. No macro, syntax, notation, axiom, sorry.
-/
import Derived.Test.YtjbpphomlmlmaaaGreatDoorRows
import GoSem.ClaimSeven
namespace Go.Proofs.YtjbpphomlmlmaaaGreatDoor
namespace Rows

/-- THE TIED CARD OF 'laws.FnVtDictOrder'. -/
def fnVtDictOrderCard : Claim7 := { stood := { row := fnVtDictOrderRow, standIns := [], harness := (true, "d15ff8d444942ee89286f925ea36be1f1284444d5cfa779c7529b6b9bdf88ca1"), looks := true }, kinds := [], alts := [], laidByText := true, laidKinds := [.data, .data, .data, .data, .data, .sentinel, .sentinel, .pinned, .pinned, .pinned, .pinned, .pinned, .pinned, .pinned, .pinned], laidTests := true, laidLooks := .later }
def FnVtDictOrderCardSaid : Prop := Claim7.holds Tryz.pinned (.plain (OpenSpec.ofChange fnVtDictOrderSpec)) fnVtDictOrderCard

/-- THE TIED CARD OF 'laws.FnVtPrefix'. -/
def fnVtPrefixCard : Claim7 := { stood := { row := fnVtPrefixRow, standIns := [], harness := (true, "d15ff8d444942ee89286f925ea36be1f1284444d5cfa779c7529b6b9bdf88ca1"), looks := true }, kinds := [], alts := [], laidByText := true, laidKinds := [.data, .data, .data, .data, .data, .sentinel, .sentinel, .pinned, .pinned, .pinned, .pinned, .pinned, .pinned, .pinned, .pinned], laidTests := true, laidLooks := .later }
def FnVtPrefixCardSaid : Prop := Claim7.holds Tryz.pinned (.plain (OpenSpec.ofChange fnVtPrefixSpec)) fnVtPrefixCard

/-- THE TIED CARD OF 'laws.FnVtString'. -/
def fnVtStringCard : Claim7 := { stood := { row := fnVtStringRow, standIns := [], harness := (true, "d15ff8d444942ee89286f925ea36be1f1284444d5cfa779c7529b6b9bdf88ca1"), looks := true }, kinds := [], alts := [], laidByText := true, laidKinds := [.data, .data, .data, .data, .data, .sentinel, .sentinel, .pinned, .pinned, .pinned, .pinned, .pinned, .pinned, .pinned, .pinned], laidTests := true, laidLooks := .later }
def FnVtStringCardSaid : Prop := Claim7.holds Tryz.pinned (.plain (OpenSpec.ofChange fnVtStringSpec)) fnVtStringCard

/-- THE TIED CARD OF 'laws.FnVtStringParts'. -/
def fnVtStringPartsCard : Claim7 := { stood := { row := fnVtStringPartsRow, standIns := [], harness := (true, "d15ff8d444942ee89286f925ea36be1f1284444d5cfa779c7529b6b9bdf88ca1"), looks := true }, kinds := [], alts := [], laidByText := true, laidKinds := [.data, .data, .data, .data, .data, .sentinel, .sentinel, .pinned, .pinned, .pinned, .pinned, .pinned, .pinned, .pinned, .pinned], laidTests := true, laidLooks := .later }
def FnVtStringPartsCardSaid : Prop := Claim7.holds Tryz.pinned (.plain (OpenSpec.ofChange fnVtStringPartsSpec)) fnVtStringPartsCard

/-- THE SECOND FORM's CARD OF 'laws.FnVtDictOrder'. -/
def fnVtDictOrderUptoCard : Claim7 := { stood := { row := fnVtDictOrderUptoRow, standIns := [], harness := (true, "d15ff8d444942ee89286f925ea36be1f1284444d5cfa779c7529b6b9bdf88ca1"), looks := true }, kinds := [], alts := [], laidByText := true, laidKinds := [.data, .data, .data, .data, .data, .sentinel, .sentinel, .pinned, .pinned, .pinned, .pinned, .pinned, .pinned, .pinned, .pinned], laidTests := true, laidLooks := .later }
def FnVtDictOrderUptoCardSaid : Prop := Claim7.holds Tryz.pinned (.plain (OpenSpec.upto fnVtDictOrderSpec)) fnVtDictOrderUptoCard

/-- THE SECOND FORM's CARD OF 'laws.FnVtPrefix'. -/
def fnVtPrefixUptoCard : Claim7 := { stood := { row := fnVtPrefixUptoRow, standIns := [], harness := (true, "d15ff8d444942ee89286f925ea36be1f1284444d5cfa779c7529b6b9bdf88ca1"), looks := true }, kinds := [], alts := [], laidByText := true, laidKinds := [.data, .data, .data, .data, .data, .sentinel, .sentinel, .pinned, .pinned, .pinned, .pinned, .pinned, .pinned, .pinned, .pinned], laidTests := true, laidLooks := .later }
def FnVtPrefixUptoCardSaid : Prop := Claim7.holds Tryz.pinned (.plain (OpenSpec.upto fnVtPrefixSpec)) fnVtPrefixUptoCard

/-- THE SECOND FORM's CARD OF 'laws.FnVtString'. -/
def fnVtStringUptoCard : Claim7 := { stood := { row := fnVtStringUptoRow, standIns := [], harness := (true, "d15ff8d444942ee89286f925ea36be1f1284444d5cfa779c7529b6b9bdf88ca1"), looks := true }, kinds := [], alts := [], laidByText := true, laidKinds := [.data, .data, .data, .data, .data, .sentinel, .sentinel, .pinned, .pinned, .pinned, .pinned, .pinned, .pinned, .pinned, .pinned], laidTests := true, laidLooks := .later }
def FnVtStringUptoCardSaid : Prop := Claim7.holds Tryz.pinned (.plain (OpenSpec.upto fnVtStringSpec)) fnVtStringUptoCard

/-- THE SECOND FORM's CARD OF 'laws.FnVtStringParts'. -/
def fnVtStringPartsUptoCard : Claim7 := { stood := { row := fnVtStringPartsUptoRow, standIns := [], harness := (true, "d15ff8d444942ee89286f925ea36be1f1284444d5cfa779c7529b6b9bdf88ca1"), looks := true }, kinds := [], alts := [], laidByText := true, laidKinds := [.data, .data, .data, .data, .data, .sentinel, .sentinel, .pinned, .pinned, .pinned, .pinned, .pinned, .pinned, .pinned, .pinned], laidTests := true, laidLooks := .later }
def FnVtStringPartsUptoCardSaid : Prop := Claim7.holds Tryz.pinned (.plain (OpenSpec.upto fnVtStringPartsSpec)) fnVtStringPartsUptoCard
end Rows
end Go.Proofs.YtjbpphomlmlmaaaGreatDoor
