-- PRINTED BY print.sh 35421559b90ae4d0a3588c463048766b98c2df88dd9212a6774a882060cdf62d: not written by this session
import Derived.Test.YtfchmbhbkhgfnaaDoorProg
import Derived.Below
import Derived.Deep.Draws
import Derived.Deep.AppendLies
import Derived.Maps.AppendAt
import Derived.OwnWalk
import Derived.Laws.BytesArg
import Derived.Laws.MakeOwn
import Derived.Laws.OwnMore
import Derived.Deep.OwnRows
import Derived.Tactics
import Derived.Lib.ConvBytes
import Derived.Laws.Slices
import Derived.WalkKit
import Derived.KernelRfl
import Derived.RowKit3
import Derived.Deep.LoopGhost
import Derived.Deep.QuietTactic
import Derived.BigQuiet
import Derived.WideLaws
import Derived.Deep.DeepCutAuto
import Derived.Deep.CutBlock
import Derived.Deep.RegionHeld3
import Derived.Laws.Rows
import Derived.Lib.AppendStr
import Derived.ArgAppend
import Derived.Laws.IdiomCopy
import Derived.OrdersHeld
import Derived.Laws.BitsLemmas
import Derived.RowKit
import Derived.Test.YtfchmbhbkhgfnaaDoorWWords
import Derived.Test.YtfchmbhbkhgfnaaDoorWLast
import Derived.Test.YtfchmbhbkhgfnaaDoorWTab
import Derived.Test.YtfchmbhbkhgfnaaDoorWFour
import Derived.Test.YtfchmbhbkhgfnaaDoorWQPut
import Derived.Test.YtfchmbhbkhgfnaaDoorWApart
import Derived.Test.YtfchmbhbkhgfnaaDoorWArr
import Derived.Test.YtfchmbhbkhgfnaaDoorWZeros
import Derived.Test.YtfchmbhbkhgfnaaDoorWFoot
import Derived.Test.YtfchmbhbkhgfnaaDoorWKept
import Derived.Test.YtfchmbhbkhgfnaaDoorWShare
import Derived.Test.YtfchmbhbkhgfnaaDoorWN
import Derived.Test.YtfchmbhbkhgfnaaDoorWFootNe
import Derived.Test.YtfchmbhbkhgfnaaDoorWAt
import Derived.Test.YtfchmbhbkhgfnaaDoorWEqStruct
import Derived.Test.YtfchmbhbkhgfnaaDoorWRepsOne
import Derived.Test.YtfchmbhbkhgfnaaDoorWInv
import Derived.Test.YtfchmbhbkhgfnaaDoorWInvWords
import Derived.Test.YtfchmbhbkhgfnaaDoorWGuard
import Derived.Test.YtfchmbhbkhgfnaaDoorWNEv
import Derived.Test.YtfchmbhbkhgfnaaDoorWMore
namespace Go.Proofs.YtfchmbhbkhgfnaaDoor.PFnEscapeParts
open Go.RowKit Go.Proofs.YtfchmbhbkhgfnaaDoorW.PrintWords Go.Proofs.YtfchmbhbkhgfnaaDoorW.PrintLast Go.Proofs.YtfchmbhbkhgfnaaDoorW.PrintMore
attribute [local go_sem] max2_int min2_int max_two min_two max_three min_three max_four min_four   -- for this text's walks alone
set_option linter.unusedVariables false
set_option linter.unusedSimpArgs false



def errW : Option Int → Value
  | none => .nilIface
  | some c => .iface 0 (.int .i64 c)
theorem errW_none : errW none = .nilIface := rfl
theorem errW_some (c : Int) : errW (some c) = .iface 0 (.int .i64 c) := rfl

-- the values' own types

end Go.Proofs.YtfchmbhbkhgfnaaDoor.PFnEscapeParts
