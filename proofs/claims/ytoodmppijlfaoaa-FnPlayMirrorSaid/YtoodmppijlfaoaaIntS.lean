/- The walks of the laws' functions on slices of ints. -/
import Derived.Test.YtoodmppijlfaoaaMem
namespace Go.Proofs.Ytoodmppijlfaoaa
open Go.RowKit

end Go.Proofs.Ytoodmppijlfaoaa
