/- The walks of the laws' functions on slices of ints. -/
import Derived.Test.YthgghafndabpfaaMem
namespace Go.Proofs.Ythgghafndabpfaa
open Go.RowKit

end Go.Proofs.Ythgghafndabpfaa
