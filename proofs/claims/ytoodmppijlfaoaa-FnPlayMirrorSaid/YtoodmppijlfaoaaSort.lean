/- The walks of the sorts: of the reference, and over a ring. -/
import Derived.Test.YtoodmppijlfaoaaSeq
import Derived.Test.YtoodmppijlfaoaaSortPure
namespace Go.Proofs.Ytoodmppijlfaoaa
open Go.RowKit


end Go.Proofs.Ytoodmppijlfaoaa
