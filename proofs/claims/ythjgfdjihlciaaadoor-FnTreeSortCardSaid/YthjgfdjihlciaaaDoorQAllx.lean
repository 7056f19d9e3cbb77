-- WRITTEN BY A PROGRAM OF THIS SESSION, out of the loaded program, with words of the kit
import Derived.Test.YthjgfdjihlciaaaDoorQAllx0
import Derived.Test.YthjgfdjihlciaaaDoorQAllx1
import Derived.Test.YthjgfdjihlciaaaDoorQAllx2
import Derived.Test.YthjgfdjihlciaaaDoorQAllx3
import Derived.Test.YthjgfdjihlciaaaDoorQAllx4
import Derived.Test.YthjgfdjihlciaaaDoorQAllx5
import Derived.Test.YthjgfdjihlciaaaDoorQAllx6
namespace Go.Proofs.YthjgfdjihlciaaaDoor.QAll
open Go.RowKit Go.Proofs.YthjgfdjihlciaaaDoorW.PrintWords Go.Proofs.YthjgfdjihlciaaaDoorW.PrintLast Go.Proofs.YthjgfdjihlciaaaDoorW.PrintMore
attribute [local go_sem] max2_int min2_int max_two min_two max_three min_three max_four min_four   -- for this text's walks alone
set_option linter.unusedVariables false
set_option linter.unusedSimpArgs false

end Go.Proofs.YthjgfdjihlciaaaDoor.QAll
