/- FnSortBoth returns true: the walk of the law. -/
import Derived.Test.YthomhekbikpcfaaSortList
import Derived.Test.YthomhekbikpcfaaSortRing
import Derived.Test.YthomhekbikpcfaaSortMore
import Derived.Test.YthomhekbikpcfaaOrder
namespace Go.Proofs.Ythomhekbikpcfaa
open Go.RowKit


end Go.Proofs.Ythomhekbikpcfaa
