/- The walks of the sorts: of the reference, and over a ring. -/
import Derived.Test.YtgjackalcajmjaaSeq
import Derived.Test.YtgjackalcajmjaaSortPure
import Derived.Test.YtgjackalcajmjaaRing3
namespace Go.Proofs.Ytgjackalcajmjaa
open Go.RowKit


end Go.Proofs.Ytgjackalcajmjaa
