/-
  DERIVED. GIVEN WITH THE SEED: THE CARDS: each row of YtgpoplfgngiilaaGreatDoorRows.lean that lists a variable, with what it lists TIED to the program's text (the seventh form; the later family's looks); each row that meets fmt, with fmt's text TOLD by the authors' own Lean function (tested against real Go, not proved from fmt's source: count such statements apart). THE CARD IS WHAT COUNTS. Prove the row's statement (the work); the ties are given (YtgpoplfgngiilaaGreatDoorTie.lean); close each card by the builder's one call (the guide's Derived/Test/ToyasCard.lean, 'card_holds'). Laid BY PROGRAM, IN A SANDBOX (cutbox-door.mjs). By AI agents, Wed Nov 11 2026. No macro, syntax, notation, axiom, sorry.
-/
import Derived.Test.YtgpoplfgngiilaaGreatDoorRows
import GoSem.ClaimSeven
namespace Go.Proofs.YtgpoplfgngiilaaGreatDoor
namespace Rows

/-- THE TIED CARD OF 'laws.FnLiteralInt'. -/
def fnLiteralIntCard : Claim7 := { stood := { row := fnLiteralIntRow, standIns := [], harness := (true, "8fffb0e42caece08a6f7f5f3c146177005e17b7e3568915d68f8fc414b808779"), looks := true }, kinds := [], alts := [], laidByText := true, laidKinds := [.data, .data, .data, .data, .sentinel, .sentinel, .sentinel, .data, .sentinel, .sentinel, .data, .data, .data, .data, .pinned], laidTests := true, laidLooks := .later }
def FnLiteralIntCardSaid : Prop := Claim7.holds Tryz.pinned (.plain (OpenSpec.ofChange fnLiteralIntSpec)) fnLiteralIntCard

/-- THE TIED CARD OF 'laws.FnLiteralChar'. -/
def fnLiteralCharCard : Claim7 := { stood := { row := fnLiteralCharRow, standIns := [], harness := (true, "8fffb0e42caece08a6f7f5f3c146177005e17b7e3568915d68f8fc414b808779"), looks := true }, kinds := [], alts := [], laidByText := true, laidKinds := [.data, .data, .data, .data, .sentinel, .sentinel, .sentinel, .data, .sentinel, .sentinel, .data, .data, .data, .data, .pinned], laidTests := true, laidLooks := .later }
def FnLiteralCharCardSaid : Prop := Claim7.holds Tryz.pinned (.plain (OpenSpec.ofChange fnLiteralCharSpec)) fnLiteralCharCard

/-- THE TIED CARD OF 'laws.FnLiteralHexFloat'. -/
def fnLiteralHexFloatCard : Claim7 := { stood := { row := fnLiteralHexFloatRow, standIns := [], harness := (true, "8fffb0e42caece08a6f7f5f3c146177005e17b7e3568915d68f8fc414b808779"), looks := true }, kinds := [], alts := [], laidByText := true, laidKinds := [.data, .data, .data, .data, .sentinel, .sentinel, .sentinel, .data, .sentinel, .sentinel, .data, .data, .data, .data, .pinned], laidTests := true, laidLooks := .later }
def FnLiteralHexFloatCardSaid : Prop := Claim7.holds Tryz.pinned (.plain (OpenSpec.ofChange fnLiteralHexFloatSpec)) fnLiteralHexFloatCard

/-- THE SECOND FORM's CARD OF 'laws.FnLiteralInt'. -/
def fnLiteralIntUptoCard : Claim7 := { stood := { row := fnLiteralIntUptoRow, standIns := [], harness := (true, "8fffb0e42caece08a6f7f5f3c146177005e17b7e3568915d68f8fc414b808779"), looks := true }, kinds := [], alts := [], laidByText := true, laidKinds := [.data, .data, .data, .data, .sentinel, .sentinel, .sentinel, .data, .sentinel, .sentinel, .data, .data, .data, .data, .pinned], laidTests := true, laidLooks := .later }
def FnLiteralIntUptoCardSaid : Prop := Claim7.holds Tryz.pinned (.plain (OpenSpec.upto fnLiteralIntSpec)) fnLiteralIntUptoCard

/-- THE SECOND FORM's CARD OF 'laws.FnLiteralChar'. -/
def fnLiteralCharUptoCard : Claim7 := { stood := { row := fnLiteralCharUptoRow, standIns := [], harness := (true, "8fffb0e42caece08a6f7f5f3c146177005e17b7e3568915d68f8fc414b808779"), looks := true }, kinds := [], alts := [], laidByText := true, laidKinds := [.data, .data, .data, .data, .sentinel, .sentinel, .sentinel, .data, .sentinel, .sentinel, .data, .data, .data, .data, .pinned], laidTests := true, laidLooks := .later }
def FnLiteralCharUptoCardSaid : Prop := Claim7.holds Tryz.pinned (.plain (OpenSpec.upto fnLiteralCharSpec)) fnLiteralCharUptoCard

/-- THE SECOND FORM's CARD OF 'laws.FnLiteralHexFloat'. -/
def fnLiteralHexFloatUptoCard : Claim7 := { stood := { row := fnLiteralHexFloatUptoRow, standIns := [], harness := (true, "8fffb0e42caece08a6f7f5f3c146177005e17b7e3568915d68f8fc414b808779"), looks := true }, kinds := [], alts := [], laidByText := true, laidKinds := [.data, .data, .data, .data, .sentinel, .sentinel, .sentinel, .data, .sentinel, .sentinel, .data, .data, .data, .data, .pinned], laidTests := true, laidLooks := .later }
def FnLiteralHexFloatUptoCardSaid : Prop := Claim7.holds Tryz.pinned (.plain (OpenSpec.upto fnLiteralHexFloatSpec)) fnLiteralHexFloatUptoCard
end Rows
end Go.Proofs.YtgpoplfgngiilaaGreatDoor
