-- WRITTEN BY A PROGRAM OF THIS SESSION, out of the loaded program, with words of the kit
import Derived.Test.YtoidakilalebmaaDoorQAllx0
import Derived.Test.YtoidakilalebmaaDoorQAllx1
namespace Go.Proofs.YtoidakilalebmaaDoor.QAll
open Go.RowKit Go.Proofs.YtoidakilalebmaaDoorW.PrintWords Go.Proofs.YtoidakilalebmaaDoorW.PrintLast Go.Proofs.YtoidakilalebmaaDoorW.PrintMore
attribute [local go_sem] max2_int min2_int max_two min_two max_three min_three max_four min_four   -- for this text's walks alone
set_option linter.unusedVariables false
set_option linter.unusedSimpArgs false

end Go.Proofs.YtoidakilalebmaaDoor.QAll
