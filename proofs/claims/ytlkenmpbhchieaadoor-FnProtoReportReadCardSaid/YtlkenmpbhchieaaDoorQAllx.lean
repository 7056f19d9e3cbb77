-- WRITTEN BY A PROGRAM OF THIS SESSION, out of the loaded program, with words of the kit
import Derived.Test.YtlkenmpbhchieaaDoorQAllx0
import Derived.Test.YtlkenmpbhchieaaDoorQAllx1
import Derived.Test.YtlkenmpbhchieaaDoorQAllx2
import Derived.Test.YtlkenmpbhchieaaDoorQAllx3
import Derived.Test.YtlkenmpbhchieaaDoorQAllx4
import Derived.Test.YtlkenmpbhchieaaDoorQAllx5
namespace Go.Proofs.YtlkenmpbhchieaaDoor.QAll
open Go.RowKit Go.Proofs.YtlkenmpbhchieaaDoorW.PrintWords Go.Proofs.YtlkenmpbhchieaaDoorW.PrintLast Go.Proofs.YtlkenmpbhchieaaDoorW.PrintMore
attribute [local go_sem] max2_int min2_int max_two min_two max_three min_three max_four min_four   -- for this text's walks alone
set_option linter.unusedVariables false
set_option linter.unusedSimpArgs false

end Go.Proofs.YtlkenmpbhchieaaDoor.QAll
