-- WRITTEN BY A PROGRAM OF THIS SESSION, out of the loaded program, with words of the kit
import Derived.Test.YtponeoodgfgejaaDoorQAllx0
import Derived.Test.YtponeoodgfgejaaDoorQAllx1
import Derived.Test.YtponeoodgfgejaaDoorQAllx2
import Derived.Test.YtponeoodgfgejaaDoorQAllx3
namespace Go.Proofs.YtponeoodgfgejaaDoor.QAll
open Go.RowKit Go.Proofs.YtponeoodgfgejaaDoorW.PrintWords Go.Proofs.YtponeoodgfgejaaDoorW.PrintLast Go.Proofs.YtponeoodgfgejaaDoorW.PrintMore
attribute [local go_sem] max2_int min2_int max_two min_two max_three min_three max_four min_four   -- for this text's walks alone
set_option linter.unusedVariables false
set_option linter.unusedSimpArgs false

end Go.Proofs.YtponeoodgfgejaaDoor.QAll
