-- WRITTEN BY A PROGRAM OF THIS SESSION, out of the loaded program, with words of the kit
import Derived.Test.YtlfabebbpoipgaaDoorProg
import Derived.Below
import Derived.Deep.Draws
import Derived.Deep.AppendLies
import Derived.Maps.AppendAt
import Derived.OwnWalk
import Derived.Laws.BytesArg
import Derived.Laws.MakeOwn
import Derived.Laws.OwnMore
import Derived.Deep.OwnRows
import Derived.Tactics
import Derived.Lib.ConvBytes
import Derived.Laws.Slices
import Derived.WalkKit
import Derived.KernelRfl
import Derived.RowKit3
import Derived.Deep.LoopGhost
import Derived.Deep.QuietTactic
import Derived.BigQuiet
import Derived.WideLaws
import Derived.Deep.DeepCutAuto
import Derived.Deep.CutBlock
import Derived.Deep.RegionHeld3
import Derived.Laws.Rows
import Derived.Lib.AppendStr
import Derived.ArgAppend
import Derived.Laws.IdiomCopy
import Derived.OrdersHeld
import Derived.Laws.BitsLemmas
import Derived.RowKit
import Derived.Test.YtlfabebbpoipgaaDoorWWords
import Derived.Test.YtlfabebbpoipgaaDoorWLast
import Derived.Test.YtlfabebbpoipgaaDoorWTab
import Derived.Test.YtlfabebbpoipgaaDoorWFour
import Derived.Test.YtlfabebbpoipgaaDoorWQPut
import Derived.Test.YtlfabebbpoipgaaDoorWApart
import Derived.Test.YtlfabebbpoipgaaDoorWArr
import Derived.Test.YtlfabebbpoipgaaDoorWZeros
import Derived.Test.YtlfabebbpoipgaaDoorWFoot
import Derived.Test.YtlfabebbpoipgaaDoorWKept
import Derived.Test.YtlfabebbpoipgaaDoorWShare
import Derived.Test.YtlfabebbpoipgaaDoorWN
import Derived.Test.YtlfabebbpoipgaaDoorWFootNe
import Derived.Test.YtlfabebbpoipgaaDoorWAt
import Derived.Test.YtlfabebbpoipgaaDoorWEqStruct
import Derived.Test.YtlfabebbpoipgaaDoorWRepsOne
import Derived.Test.YtlfabebbpoipgaaDoorWInv
import Derived.Test.YtlfabebbpoipgaaDoorWInvWords
import Derived.Test.YtlfabebbpoipgaaDoorWGuard
import Derived.Test.YtlfabebbpoipgaaDoorWNEv
import Derived.Test.YtlfabebbpoipgaaDoorWMore
namespace Go.Proofs.YtlfabebbpoipgaaDoor.QAll
open Go.RowKit Go.Proofs.YtlfabebbpoipgaaDoorW.PrintWords Go.Proofs.YtlfabebbpoipgaaDoorW.PrintLast Go.Proofs.YtlfabebbpoipgaaDoorW.PrintMore
attribute [local go_sem] max2_int min2_int max_two min_two max_three min_three max_four min_four   -- for this text's walks alone
set_option linter.unusedVariables false
set_option linter.unusedSimpArgs false



def errW : Option Int → Value
  | none => .nilIface
  | some c => .iface 38 (.int .i64 c)
theorem errW_none : errW none = .nilIface := rfl
theorem errW_some (c : Int) : errW (some c) = .iface 38 (.int .i64 c) := rfl

theorem info5 : (Tryd.prog.info? 5).map (fun i => (i.zero, i.size, i.bytes)) = some (some (.int .u8 0), 1, 1) := by kernel_rfl
-- the values' own types

end Go.Proofs.YtlfabebbpoipgaaDoor.QAll
