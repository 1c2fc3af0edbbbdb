-- printed by gprint.py (a session's own turn of the kit's print): NU
import Derived.Test.YtgnfapnnbcafbaaDoorGNUx0
import Derived.Test.YtgnfapnnbcafbaaDoorGNUx1
import Derived.Test.YtgnfapnnbcafbaaDoorGNUx2
import Derived.Test.YtgnfapnnbcafbaaDoorGNUx3
import Derived.Test.YtgnfapnnbcafbaaDoorGNUx4
import Derived.Test.YtgnfapnnbcafbaaDoorGNUx5
import Derived.Test.YtgnfapnnbcafbaaDoorGNUx6
namespace Go.Proofs.YtgnfapnnbcafbaaDoor.GNU
open Go.RowKit Go.Proofs.YtgnfapnnbcafbaaDoorW.PrintWords Go.Proofs.YtgnfapnnbcafbaaDoorW.PrintLast Go.Proofs.YtgnfapnnbcafbaaDoorW.PrintMore
attribute [local go_sem] max2_int min2_int max_two min_two max_three min_three max_four min_four   -- for this text's walks alone
set_option linter.unusedVariables false
set_option linter.unusedSimpArgs false

end Go.Proofs.YtgnfapnnbcafbaaDoor.GNU
