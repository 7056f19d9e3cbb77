/- ioutil.CheckClose, deferred; object.Signature.Encode. -/
import Derived.Test.YtddnepddilbikaaDoorObjA
import Derived.Test.YtddnepddilbikaaDoorQAllx12
import Derived.Test.YtddnepddilbikaaDoorQAllx10
import Derived.Defers
import Derived.BigQuiet
set_option linter.unusedVariables false
set_option linter.unusedSimpArgs false
namespace Go.Proofs.YtddnepddilbikaaDoor.ObjB
open Go.RowKit Go.Proofs.YtddnepddilbikaaDoorW.PrintWords Go.Proofs.YtddnepddilbikaaDoor.QAll ObjA

set_option maxHeartbeats 4000000 in
set_option maxRecDepth 100000 in
theorem checkClose (o : Nat) (ea : Addr) (u : FrameMode) (w : World) : CallsD Tryd.prog 44 #[.iface 57 (.pointer (some ⟨o, 0, none⟩)), .pointer (some ea)] u w fun e u' w' => u' = u ∧ (e = .returned (.tuple #[]) ∧ w' = w) := by
  have hmw := fun g W => mClose 328/-FUEL-/ g W
  have HC := Aside0.mk (close o w)
  go_enter_d Tryd.func44, Tryd.ntmps44
  go_wp2_with (first
    | (go_at_call 126
       (with_reducible refine HC.out.mono ?_)
       rintro x w1 ⟨rfl, rfl⟩)
    | fail)
  go_end0
  exact ⟨rfl, rfl⟩
end Go.Proofs.YtddnepddilbikaaDoor.ObjB
