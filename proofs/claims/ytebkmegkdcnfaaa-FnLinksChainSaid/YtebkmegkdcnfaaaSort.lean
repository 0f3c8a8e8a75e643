/- The walks of the sorts: of the reference, and over a ring. -/
import Derived.Test.YtebkmegkdcnfaaaSeq
import Derived.Test.YtebkmegkdcnfaaaSortPure
namespace Go.Proofs.Ytebkmegkdcnfaaa
open Go.RowKit


end Go.Proofs.Ytebkmegkdcnfaaa
