-- PRINTED BY print.sh 35421559b90ae4d0a3588c463048766b98c2df88dd9212a6774a882060cdf62d: not written by this session
import Derived.Test.YtfcefkenpndblaaProg
import Derived.Below
import Derived.Deep.Draws
import Derived.Deep.AppendLies
import Derived.Maps.AppendAt
import Derived.OwnWalk
import Derived.Laws.BytesArg
import Derived.Laws.MakeOwn
import Derived.Laws.OwnMore
import Derived.Deep.OwnRows
import Derived.Tactics
import Derived.Lib.ConvBytes
import Derived.Laws.Slices
import Derived.WalkKit
import Derived.KernelRfl
import Derived.RowKit3
import Derived.Deep.LoopGhost
import Derived.Deep.QuietTactic
import Derived.BigQuiet
import Derived.WideLaws
import Derived.Deep.DeepCutAuto
import Derived.Deep.CutBlock
import Derived.Deep.RegionHeld3
import Derived.Laws.Rows
import Derived.Lib.AppendStr
import Derived.ArgAppend
import Derived.Laws.IdiomCopy
import Derived.OrdersHeld
import Derived.Laws.BitsLemmas
import Derived.RowKit
import Derived.Test.YtfcefkenpndblaaWWords
import Derived.Test.YtfcefkenpndblaaWLast
import Derived.Test.YtfcefkenpndblaaWTab
import Derived.Test.YtfcefkenpndblaaWFour
import Derived.Test.YtfcefkenpndblaaWQPut
import Derived.Test.YtfcefkenpndblaaWApart
import Derived.Test.YtfcefkenpndblaaWArr
import Derived.Test.YtfcefkenpndblaaWZeros
import Derived.Test.YtfcefkenpndblaaWFoot
import Derived.Test.YtfcefkenpndblaaWKept
import Derived.Test.YtfcefkenpndblaaWShare
import Derived.Test.YtfcefkenpndblaaWN
import Derived.Test.YtfcefkenpndblaaWFootNe
import Derived.Test.YtfcefkenpndblaaWAt
import Derived.Test.YtfcefkenpndblaaWEqStruct
import Derived.Test.YtfcefkenpndblaaWRepsOne
import Derived.Test.YtfcefkenpndblaaWInv
import Derived.Test.YtfcefkenpndblaaWInvWords
import Derived.Test.YtfcefkenpndblaaWGuard
import Derived.Test.YtfcefkenpndblaaWNEv
import Derived.Test.YtfcefkenpndblaaWMore
namespace Go.Proofs.Ytfcefkenpndblaa.PFnParam
open Go.RowKit Go.Proofs.YtfcefkenpndblaaW.PrintWords Go.Proofs.YtfcefkenpndblaaW.PrintLast Go.Proofs.YtfcefkenpndblaaW.PrintMore
attribute [local go_sem] max2_int min2_int max_two min_two max_three min_three max_four min_four   -- for this text's walks alone
set_option linter.unusedVariables false
set_option linter.unusedSimpArgs false



def errW : Option Int → Value
  | none => .nilIface
  | some c => .iface 0 (.int .i64 c)
theorem errW_none : errW none = .nilIface := rfl
theorem errW_some (c : Int) : errW (some c) = .iface 0 (.int .i64 c) := rfl

theorem info9 : (Try.prog.info? 9).map (fun i => (i.zero, i.size, i.bytes)) = some (some (.string ⟨#[]⟩), 1, 16) := by kernel_rfl
-- the values' own types

end Go.Proofs.Ytfcefkenpndblaa.PFnParam
