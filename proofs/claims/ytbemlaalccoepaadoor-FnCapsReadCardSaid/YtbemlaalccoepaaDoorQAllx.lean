-- WRITTEN BY A PROGRAM OF THIS SESSION, out of the loaded program, with words of the kit
import Derived.Test.YtbemlaalccoepaaDoorQAllx0
import Derived.Test.YtbemlaalccoepaaDoorQAllx1
import Derived.Test.YtbemlaalccoepaaDoorQAllx2
import Derived.Test.YtbemlaalccoepaaDoorQAllx3
import Derived.Test.YtbemlaalccoepaaDoorQAllx4
namespace Go.Proofs.YtbemlaalccoepaaDoor.QAll
open Go.RowKit Go.Proofs.YtbemlaalccoepaaDoorW.PrintWords Go.Proofs.YtbemlaalccoepaaDoorW.PrintLast Go.Proofs.YtbemlaalccoepaaDoorW.PrintMore
attribute [local go_sem] max2_int min2_int max_two min_two max_three min_three max_four min_four   -- for this text's walks alone
set_option linter.unusedVariables false
set_option linter.unusedSimpArgs false

end Go.Proofs.YtbemlaalccoepaaDoor.QAll
