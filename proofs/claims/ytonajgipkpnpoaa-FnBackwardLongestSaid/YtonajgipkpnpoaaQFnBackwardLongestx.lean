-- Written by a program of this session, after the kit's printer.
import Derived.Test.YtonajgipkpnpoaaQFnBackwardLongestx0
import Derived.Test.YtonajgipkpnpoaaQFnBackwardLongestx1
import Derived.Test.YtonajgipkpnpoaaQFnBackwardLongestx2
import Derived.Test.YtonajgipkpnpoaaQFnBackwardLongestx3
namespace Go.Proofs.Ytonajgipkpnpoaa.QFnBackwardLongest
open Go.RowKit Go.Proofs.YtonajgipkpnpoaaW.PrintWords Go.Proofs.YtonajgipkpnpoaaW.PrintLast Go.Proofs.YtonajgipkpnpoaaW.PrintMore
attribute [local go_sem] max2_int min2_int max_two min_two max_three min_three max_four min_four   -- for this text's walks alone
set_option linter.unusedVariables false
set_option linter.unusedSimpArgs false

end Go.Proofs.Ytonajgipkpnpoaa.QFnBackwardLongest
