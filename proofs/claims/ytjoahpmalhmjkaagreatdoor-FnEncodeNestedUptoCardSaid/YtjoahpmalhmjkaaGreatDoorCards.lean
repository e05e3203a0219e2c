/-
  DERIVED. GIVEN WITH THE SEED: THE CARDS: each row of YtjoahpmalhmjkaaGreatDoorRows.lean that lists a variable, with what it lists TIED to the program's text (the seventh form; the later family's looks); each row that meets fmt, with fmt's text TOLD by the authors' own Lean function (tested against real Go, not proved from fmt's source: count such statements apart). THE CARD IS WHAT COUNTS. Prove the row's statement (the work); the ties are given (YtjoahpmalhmjkaaGreatDoorTie.lean); close each card by the builder's one call (the guide's Derived/Test/ToyasCard.lean, 'card_holds'). Laid BY PROGRAM, IN A SANDBOX (cutbox-door.mjs). By AI agents, Wed Nov 11 2026. No macro, syntax, notation, axiom, sorry.
-/
import Derived.Test.YtjoahpmalhmjkaaGreatDoorRows
import GoSem.ClaimSeven
namespace Go.Proofs.YtjoahpmalhmjkaaGreatDoor
namespace Rows

/-- THE TIED CARD OF 'laws.FnEncodeNested'. -/
def fnEncodeNestedCard : Claim7 := { stood := { row := fnEncodeNestedRow, standIns := [], harness := (true, "5130df14aee5baf231c8b09a2a382d808b74b1f30705184cf8239586f04d0e53"), looks := true }, kinds := [], alts := [], laidByText := true, laidKinds := [.data, .data, .data, .data, .handle, .sentinel, .sentinel, .data, .data, .pinned, .pinned], laidTests := true, laidLooks := .later }
def FnEncodeNestedCardSaid : Prop := Claim7.holds Tryz.pinned (.plain (OpenSpec.ofChange fnEncodeNestedSpec)) fnEncodeNestedCard

/-- THE SECOND FORM's CARD OF 'laws.FnEncodeNested'. -/
def fnEncodeNestedUptoCard : Claim7 := { stood := { row := fnEncodeNestedUptoRow, standIns := [], harness := (true, "5130df14aee5baf231c8b09a2a382d808b74b1f30705184cf8239586f04d0e53"), looks := true }, kinds := [], alts := [], laidByText := true, laidKinds := [.data, .data, .data, .data, .handle, .sentinel, .sentinel, .data, .data, .pinned, .pinned], laidTests := true, laidLooks := .later }
def FnEncodeNestedUptoCardSaid : Prop := Claim7.holds Tryz.pinned (.plain (OpenSpec.upto fnEncodeNestedSpec)) fnEncodeNestedUptoCard
end Rows
end Go.Proofs.YtjoahpmalhmjkaaGreatDoor
