-- WRITTEN BY A PROGRAM OF THIS SESSION, out of the loaded program, with words of the kit
import Derived.Test.YtjeaehefnpjabaaDoorProg
import Derived.Below
import Derived.Deep.Draws
import Derived.Deep.AppendLies
import Derived.Maps.AppendAt
import Derived.OwnWalk
import Derived.Laws.BytesArg
import Derived.Laws.MakeOwn
import Derived.Laws.OwnMore
import Derived.Deep.OwnRows
import Derived.Tactics
import Derived.Lib.ConvBytes
import Derived.Laws.Slices
import Derived.WalkKit
import Derived.KernelRfl
import Derived.RowKit3
import Derived.Deep.LoopGhost
import Derived.Deep.QuietTactic
import Derived.BigQuiet
import Derived.WideLaws
import Derived.Deep.DeepCutAuto
import Derived.Deep.CutBlock
import Derived.Deep.RegionHeld3
import Derived.Laws.Rows
import Derived.Lib.AppendStr
import Derived.ArgAppend
import Derived.Laws.IdiomCopy
import Derived.OrdersHeld
import Derived.Laws.BitsLemmas
import Derived.RowKit
import Derived.Test.YtjeaehefnpjabaaDoorWWords
import Derived.Test.YtjeaehefnpjabaaDoorWLast
import Derived.Test.YtjeaehefnpjabaaDoorWTab
import Derived.Test.YtjeaehefnpjabaaDoorWFour
import Derived.Test.YtjeaehefnpjabaaDoorWQPut
import Derived.Test.YtjeaehefnpjabaaDoorWApart
import Derived.Test.YtjeaehefnpjabaaDoorWArr
import Derived.Test.YtjeaehefnpjabaaDoorWZeros
import Derived.Test.YtjeaehefnpjabaaDoorWFoot
import Derived.Test.YtjeaehefnpjabaaDoorWKept
import Derived.Test.YtjeaehefnpjabaaDoorWShare
import Derived.Test.YtjeaehefnpjabaaDoorWN
import Derived.Test.YtjeaehefnpjabaaDoorWFootNe
import Derived.Test.YtjeaehefnpjabaaDoorWAt
import Derived.Test.YtjeaehefnpjabaaDoorWEqStruct
import Derived.Test.YtjeaehefnpjabaaDoorWRepsOne
import Derived.Test.YtjeaehefnpjabaaDoorWInv
import Derived.Test.YtjeaehefnpjabaaDoorWInvWords
import Derived.Test.YtjeaehefnpjabaaDoorWGuard
import Derived.Test.YtjeaehefnpjabaaDoorWNEv
import Derived.Test.YtjeaehefnpjabaaDoorWMore
namespace Go.Proofs.YtjeaehefnpjabaaDoor.QFnRefValid
open Go.RowKit Go.Proofs.YtjeaehefnpjabaaDoorW.PrintWords Go.Proofs.YtjeaehefnpjabaaDoorW.PrintLast Go.Proofs.YtjeaehefnpjabaaDoorW.PrintMore
attribute [local go_sem] max2_int min2_int max_two min_two max_three min_three max_four min_four   -- for this text's walks alone
set_option linter.unusedVariables false
set_option linter.unusedSimpArgs false



def errW : Option Int → Value
  | none => .nilIface
  | some c => .iface 0 (.int .i64 c)
theorem errW_none : errW none = .nilIface := rfl
theorem errW_some (c : Int) : errW (some c) = .iface 0 (.int .i64 c) := rfl

theorem info9 : (Tryd.prog.info? 9).map (fun i => (i.zero, i.size, i.bytes)) = some (some (.string ⟨#[]⟩), 1, 16) := by kernel_rfl
-- the values' own types

end Go.Proofs.YtjeaehefnpjabaaDoor.QFnRefValid
