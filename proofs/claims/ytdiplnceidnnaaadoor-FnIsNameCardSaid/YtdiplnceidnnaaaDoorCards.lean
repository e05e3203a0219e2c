/-
  DERIVED. GIVEN WITH THE SEED: THE CARDS: each row of YtdiplnceidnnaaaDoorRows.lean that lists a variable, with what it lists TIED to the program's text (the seventh form; the later family's looks); each row that meets fmt, with fmt's text TOLD by the authors' own Lean function (tested against real Go, not proved from fmt's source: count such statements apart). THE CARD IS WHAT COUNTS. Prove the row's statement (the work); the ties are given (YtdiplnceidnnaaaDoorTie.lean); close each card by the builder's one call (the guide's Derived/Test/ToyasCard.lean, 'card_holds'). Laid BY PROGRAM, IN A SANDBOX (cutbox-door.mjs). By AI agents, Wed Nov 11 2026. No macro, syntax, notation, axiom, sorry.
-/
import Derived.Test.YtdiplnceidnnaaaDoorRows
import GoSem.ClaimSeven
namespace Go.Proofs.YtdiplnceidnnaaaDoor
namespace Rows

/-- THE TIED CARD OF 'laws.FnIsName'. -/
def fnIsNameCard : Claim7 := { stood := { row := fnIsNameRow, standIns := [], harness := (true, "dfe0a394482c6fed9dca21a14a43f69836e5ed36bf2b5c9be8aae920645d4336"), looks := false }, kinds := [], alts := [], laidByText := true, laidKinds := [.data, .pinned], laidTests := true, laidLooks := .later }
def FnIsNameCardSaid : Prop := Claim7.holds Tryd.pinned (.plain (OpenSpec.ofChange fnIsNameSpec)) fnIsNameCard

/-- THE SECOND FORM's CARD OF 'laws.FnIsName'. -/
def fnIsNameUptoCard : Claim7 := { stood := { row := fnIsNameUptoRow, standIns := [], harness := (true, "dfe0a394482c6fed9dca21a14a43f69836e5ed36bf2b5c9be8aae920645d4336"), looks := false }, kinds := [], alts := [], laidByText := true, laidKinds := [.data, .pinned], laidTests := true, laidLooks := .later }
def FnIsNameUptoCardSaid : Prop := Claim7.holds Tryd.pinned (.plain (OpenSpec.upto fnIsNameSpec)) fnIsNameUptoCard
end Rows
end Go.Proofs.YtdiplnceidnnaaaDoor
