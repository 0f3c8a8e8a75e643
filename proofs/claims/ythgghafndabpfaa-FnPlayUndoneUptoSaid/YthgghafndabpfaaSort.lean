/- The walks of the sorts: of the reference, and over a ring. -/
import Derived.Test.YthgghafndabpfaaSeq
import Derived.Test.YthgghafndabpfaaSortPure
namespace Go.Proofs.Ythgghafndabpfaa
open Go.RowKit


end Go.Proofs.Ythgghafndabpfaa
