/-
  DERIVED. GIVEN WITH THE SEED: THE CARDS: each row of YtfchmbhbkhgfnaaDoorRows.lean that lists a variable, with what it lists TIED to the program's text (the seventh form; the later family's looks); each row that meets fmt, with fmt's text TOLD by the authors' own Lean function (tested against real Go, not proved from fmt's source: count such statements apart). THE CARD IS WHAT COUNTS. Prove the row's statement (the work); the ties are given (YtfchmbhbkhgfnaaDoorTie.lean); close each card by the builder's one call (the guide's Derived/Test/ToyasCard.lean, 'card_holds'). Laid BY PROGRAM, IN A SANDBOX (cutbox-door.mjs). By AI agents, Wed Nov 11 2026. No macro, syntax, notation, axiom, sorry.
-/
import Derived.Test.YtfchmbhbkhgfnaaDoorRows
import GoSem.ClaimSeven
namespace Go.Proofs.YtfchmbhbkhgfnaaDoor
namespace Rows

/-- THE TIED CARD OF 'laws.FnEscapeParts'. -/
def fnEscapePartsCard : Claim7 := { stood := { row := fnEscapePartsRow, standIns := [], harness := (true, "78ff11ed3355af5d091f4a452293f4adaee16ebbb4feb00077e84262c083f1ba"), looks := false }, kinds := [], alts := [], laidByText := true, laidKinds := [.data, .pinned], laidTests := true, laidLooks := .later }
def FnEscapePartsCardSaid : Prop := Claim7.holds Tryd.pinned (.plain (OpenSpec.ofChange fnEscapePartsSpec)) fnEscapePartsCard

/-- THE TIED CARD OF 'laws.FnEscapePlain'. -/
def fnEscapePlainCard : Claim7 := { stood := { row := fnEscapePlainRow, standIns := [], harness := (true, "78ff11ed3355af5d091f4a452293f4adaee16ebbb4feb00077e84262c083f1ba"), looks := false }, kinds := [], alts := [], laidByText := true, laidKinds := [.data, .pinned], laidTests := true, laidLooks := .later }
def FnEscapePlainCardSaid : Prop := Claim7.holds Tryd.pinned (.plain (OpenSpec.ofChange fnEscapePlainSpec)) fnEscapePlainCard

/-- THE SECOND FORM's CARD OF 'laws.FnEscapeParts'. -/
def fnEscapePartsUptoCard : Claim7 := { stood := { row := fnEscapePartsUptoRow, standIns := [], harness := (true, "78ff11ed3355af5d091f4a452293f4adaee16ebbb4feb00077e84262c083f1ba"), looks := false }, kinds := [], alts := [], laidByText := true, laidKinds := [.data, .pinned], laidTests := true, laidLooks := .later }
def FnEscapePartsUptoCardSaid : Prop := Claim7.holds Tryd.pinned (.plain (OpenSpec.upto fnEscapePartsSpec)) fnEscapePartsUptoCard

/-- THE SECOND FORM's CARD OF 'laws.FnEscapePlain'. -/
def fnEscapePlainUptoCard : Claim7 := { stood := { row := fnEscapePlainUptoRow, standIns := [], harness := (true, "78ff11ed3355af5d091f4a452293f4adaee16ebbb4feb00077e84262c083f1ba"), looks := false }, kinds := [], alts := [], laidByText := true, laidKinds := [.data, .pinned], laidTests := true, laidLooks := .later }
def FnEscapePlainUptoCardSaid : Prop := Claim7.holds Tryd.pinned (.plain (OpenSpec.upto fnEscapePlainSpec)) fnEscapePlainUptoCard
end Rows
end Go.Proofs.YtfchmbhbkhgfnaaDoor
