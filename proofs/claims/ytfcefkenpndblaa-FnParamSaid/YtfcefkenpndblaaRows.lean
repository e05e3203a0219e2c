/-
  No cell of these rows narrows 'for every input' (looked for: loops, veiled, ifaces, maps, wideKeys, modest, calm, conditions, laid).
  DERIVED. THE GIVEN ROWS OF THIS SEAT. 3 by the template 'for every input the law returns true; each argument reads behind the call as it read before'; 0 by the template 'total and deterministic' (their statements: YtfcefkenpndblaaTotals.lean).
  GIVEN WITH THE SEED: the statements are not yours to turn. If you find one false, say at which input.
  Laid BY PROGRAM, IN A SANDBOX (cutbox-rows.mjs): the forced cells as the released guide's own fill.sh prints them over the translation 71bb155c83e331b2… (all of the seat's roots in one cut). By AI agents, Wed Nov 11 2026. No macro, syntax, notation, axiom, sorry.
-/
import Derived.Test.YtfcefkenpndblaaChecked
import GoSem.Claim
import GoSem.ClaimJoined
import GoSem.ClaimMapViews
import Derived.JoinedTies
import Derived.KernelRfl
namespace Go.Proofs.Ytfcefkenpndblaa
/- THE CELL 'sum', in the pinned program and in every row, IS THE sha256 OF THE DUMP (.gsa) THAT YtfcefkenpndblaaProg.lean LOADS. Nothing in Lean hashes anything: it is a label: what it is worth is what the hold of that sum in a sandbox is worth. -/
noncomputable def Try.pinned : Pinned := { name := "ytfcefkenpndblaa", sum := "71bb155c83e331b2292cc4341dacde47b403f34fda2b1840eb82b548ba90cae8", checked := Try.checked }
namespace Rows
def none {H : Type} : Left H := { results := [], args := [] }

/-- 'laws.FnInRange': WHATEVER THE INPUT: true; the input reads as it did. -/
def fnInRangeSpec : ChangeSpec := { name := "fnInRange", fn := fun _ => fun
  | [d] => { results := [.lit (.bool true)], args := [d] }
  | _ => none }
def fnInRangeRow : OpenClaim := { program := "ytfcefkenpndblaa", sum := "71bb155c83e331b2292cc4341dacde47b403f34fda2b1840eb82b548ba90cae8", func := "xmltokens/laws.FnInRange", spec := "fnInRange", apart := false }
def FnInRangeSaid : Prop := fnInRangeRow.holds Try.pinned (OpenSpec.ofChange fnInRangeSpec)

/-- ITS FALSE NEIGHBOUR: 'it returns false'. Refute it at one input. -/
def fnInRangeWrong : ChangeSpec := { name := "fnInRange", fn := fun _ => fun
  | [d] => { results := [.lit (.bool false)], args := [d] }
  | _ => none }
def FnInRangeWrongFalsely : Prop := fnInRangeRow.holds Try.pinned (OpenSpec.ofChange fnInRangeWrong)

/-- 'laws.FnDirective': WHATEVER THE INPUT: true; the input reads as it did. -/
def fnDirectiveSpec : ChangeSpec := { name := "fnDirective", fn := fun _ => fun
  | [d] => { results := [.lit (.bool true)], args := [d] }
  | _ => none }
def fnDirectiveRow : OpenClaim := { program := "ytfcefkenpndblaa", sum := "71bb155c83e331b2292cc4341dacde47b403f34fda2b1840eb82b548ba90cae8", func := "xmltokens/laws.FnDirective", spec := "fnDirective", apart := false }
def FnDirectiveSaid : Prop := fnDirectiveRow.holds Try.pinned (OpenSpec.ofChange fnDirectiveSpec)

/-- ITS FALSE NEIGHBOUR: 'it returns false'. Refute it at one input. -/
def fnDirectiveWrong : ChangeSpec := { name := "fnDirective", fn := fun _ => fun
  | [d] => { results := [.lit (.bool false)], args := [d] }
  | _ => none }
def FnDirectiveWrongFalsely : Prop := fnDirectiveRow.holds Try.pinned (OpenSpec.ofChange fnDirectiveWrong)

/-- 'laws.FnParam': WHATEVER THE INPUT: true; the input reads as it did. -/
def fnParamSpec : ChangeSpec := { name := "fnParam", fn := fun _ => fun
  | [d1, d2] => { results := [.lit (.bool true)], args := [d1, d2] }
  | _ => none }
def fnParamRow : OpenClaim := { program := "ytfcefkenpndblaa", sum := "71bb155c83e331b2292cc4341dacde47b403f34fda2b1840eb82b548ba90cae8", func := "xmltokens/laws.FnParam", spec := "fnParam", inPlace := ["internal/bytealg.IndexByteString"], apart := false }
def FnParamSaid : Prop := fnParamRow.holds Try.pinned (OpenSpec.ofChange fnParamSpec)

/-- ITS FALSE NEIGHBOUR: 'it returns false'. Refute it at one input. -/
def fnParamWrong : ChangeSpec := { name := "fnParam", fn := fun _ => fun
  | [d1, d2] => { results := [.lit (.bool false)], args := [d1, d2] }
  | _ => none }
def FnParamWrongFalsely : Prop := fnParamRow.holds Try.pinned (OpenSpec.ofChange fnParamWrong)

/- THE SECOND FORM. 'bulk': how many values and letters a reading holds, each counted each time it is reached (what is shared counts as often as it is met; a slice's spare places count too). A statement '..UptoSaid' is the law's where the arguments, and the package variables that the reading takes, are together of bulk at most 1048576: NARROWER than '..Said'. Prove '..Said' where nothing that the law and all that it calls make is longer than what came in: it says more and counts as full. Else prove '..UptoSaid'. A law counts once. -/
mutual
def uptoBulk {H : Type} : DataW H → Nat
  | .lit (.string bytes) => bytes.length + 1
  | .lit _ => 1
  | .nil => 1
  | .ptr d => uptoBulk d + 1
  | .slice elems spare => uptoBulkAll elems + uptoBulkAll spare + 1
  | .agg parts => uptoBulkAll parts + 1
  | .iface _ d => uptoBulk d + 1
  | .map entries => uptoBulkEntries entries + 1
  | .held _ => 1
def uptoBulkAll {H : Type} : List (DataW H) → Nat
  | [] => 0
  | d :: r => uptoBulk d + uptoBulkAll r
def uptoBulkEntries {H : Type} : List (Lit × DataW H) → Nat
  | [] => 0
  | x :: r => uptoBulkEntry x + uptoBulkEntries r
def uptoBulkEntry {H : Type} : Lit × DataW H → Nat
  | (.string bytes, d) => bytes.length + uptoBulk d + 1
  | (_, d) => uptoBulk d + 1
 end
def uptoSmall : (H : Type) → List (DataW H) → Bool := fun _ ds => decide (uptoBulkAll ds ≤ 1048576)
def OpenSpec.upto (s : _root_.Go.ChangeSpec) : _root_.Go.OpenSpec := { _root_.Go.OpenSpec.ofChange s with cond := some uptoSmall }

/-- 'laws.FnInRange', WHERE WHAT IT READS IS OF BULK AT MOST 1048576: true; the input reads as it did. -/
def fnInRangeUptoRow : OpenClaim := { program := "ytfcefkenpndblaa", sum := "71bb155c83e331b2292cc4341dacde47b403f34fda2b1840eb82b548ba90cae8", func := "xmltokens/laws.FnInRange", spec := "fnInRange", apart := false, narrowed := true }
def FnInRangeUptoSaid : Prop := fnInRangeUptoRow.holds Try.pinned (OpenSpec.upto fnInRangeSpec)

/-- 'laws.FnDirective', WHERE WHAT IT READS IS OF BULK AT MOST 1048576: true; the input reads as it did. -/
def fnDirectiveUptoRow : OpenClaim := { program := "ytfcefkenpndblaa", sum := "71bb155c83e331b2292cc4341dacde47b403f34fda2b1840eb82b548ba90cae8", func := "xmltokens/laws.FnDirective", spec := "fnDirective", apart := false, narrowed := true }
def FnDirectiveUptoSaid : Prop := fnDirectiveUptoRow.holds Try.pinned (OpenSpec.upto fnDirectiveSpec)

/-- 'laws.FnParam', WHERE WHAT IT READS IS OF BULK AT MOST 1048576: true; the input reads as it did. -/
def fnParamUptoRow : OpenClaim := { program := "ytfcefkenpndblaa", sum := "71bb155c83e331b2292cc4341dacde47b403f34fda2b1840eb82b548ba90cae8", func := "xmltokens/laws.FnParam", spec := "fnParam", inPlace := ["internal/bytealg.IndexByteString"], apart := false, narrowed := true }
def FnParamUptoSaid : Prop := fnParamUptoRow.holds Try.pinned (OpenSpec.upto fnParamSpec)

end Rows
end Go.Proofs.Ytfcefkenpndblaa
