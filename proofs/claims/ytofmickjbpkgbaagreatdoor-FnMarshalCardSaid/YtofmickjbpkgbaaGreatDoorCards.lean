/-
  DERIVED. GIVEN WITH THE SEED: THE CARDS: each row of YtofmickjbpkgbaaGreatDoorRows.lean that lists a variable, with what it lists TIED to the program's text (the seventh form; the later family's looks); each row that meets fmt, with fmt's text TOLD by the authors' own Lean function (tested against real Go, not proved from fmt's source: count such statements apart). THE CARD IS WHAT COUNTS. Prove the row's statement (the work); the ties are given (YtofmickjbpkgbaaGreatDoorTie.lean); close each card by the builder's one call (the guide's Derived/Test/ToyasCard.lean, 'card_holds'). Laid BY PROGRAM, IN A SANDBOX (cutbox-door.mjs). By AI agents, Wed Nov 11 2026. No macro, syntax, notation, axiom, sorry.
-/
import Derived.Test.YtofmickjbpkgbaaGreatDoorRows
import GoSem.ClaimSeven
namespace Go.Proofs.YtofmickjbpkgbaaGreatDoor
namespace Rows

/-- THE TIED CARD OF 'laws.FnFloatInt'. -/
def fnFloatIntCard : Claim7 := { stood := { row := fnFloatIntRow, standIns := [], harness := (true, "8b94dbe45f304843d99763e5a77e3316b5cd8f7e04679147635a08aa28b3f071"), looks := true }, kinds := [], alts := [], laidByText := true, laidKinds := [.data, .data, .widerDeep, .widerDeep, .data, .data, .data, .data, .data, .sentinel, .sentinel, .data, .data, .data, .data, .data, .pinned, .pinned], laidTests := true, laidLooks := .later }
def FnFloatIntCardSaid : Prop := Claim7.holds Tryz.pinned (.plain (OpenSpec.ofChange fnFloatIntSpec)) fnFloatIntCard

/-- THE TIED CARD OF 'laws.FnMarshal'. -/
def fnMarshalCard : Claim7 := { stood := { row := fnMarshalRow, standIns := [], harness := (true, "8b94dbe45f304843d99763e5a77e3316b5cd8f7e04679147635a08aa28b3f071"), looks := true }, kinds := [], alts := [], laidByText := true, laidKinds := [.data, .data, .data, .data, .sentinel, .sentinel, .sentinel, .sentinel, .sentinel, .data, .data, .data, .data, .data, .widerDeep, .pinned, .pinned], laidTests := true, laidLooks := .later }
def FnMarshalCardSaid : Prop := Claim7.holds Tryz.pinned (.plain (OpenSpec.ofChange fnMarshalSpec)) fnMarshalCard

/-- THE SECOND FORM's CARD OF 'laws.FnFloatInt'. -/
def fnFloatIntUptoCard : Claim7 := { stood := { row := fnFloatIntUptoRow, standIns := [], harness := (true, "8b94dbe45f304843d99763e5a77e3316b5cd8f7e04679147635a08aa28b3f071"), looks := true }, kinds := [], alts := [], laidByText := true, laidKinds := [.data, .data, .widerDeep, .widerDeep, .data, .data, .data, .data, .data, .sentinel, .sentinel, .data, .data, .data, .data, .data, .pinned, .pinned], laidTests := true, laidLooks := .later }
def FnFloatIntUptoCardSaid : Prop := Claim7.holds Tryz.pinned (.plain (OpenSpec.upto fnFloatIntSpec)) fnFloatIntUptoCard

/-- THE SECOND FORM's CARD OF 'laws.FnMarshal'. -/
def fnMarshalUptoCard : Claim7 := { stood := { row := fnMarshalUptoRow, standIns := [], harness := (true, "8b94dbe45f304843d99763e5a77e3316b5cd8f7e04679147635a08aa28b3f071"), looks := true }, kinds := [], alts := [], laidByText := true, laidKinds := [.data, .data, .data, .data, .sentinel, .sentinel, .sentinel, .sentinel, .sentinel, .data, .data, .data, .data, .data, .widerDeep, .pinned, .pinned], laidTests := true, laidLooks := .later }
def FnMarshalUptoCardSaid : Prop := Claim7.holds Tryz.pinned (.plain (OpenSpec.upto fnMarshalSpec)) fnMarshalUptoCard
end Rows
end Go.Proofs.YtofmickjbpkgbaaGreatDoor
