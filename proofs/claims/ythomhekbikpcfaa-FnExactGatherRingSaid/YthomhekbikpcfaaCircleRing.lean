/- The walk of CircleRing. -/
import Derived.Test.YthomhekbikpcfaaCircle
import Derived.Test.YthomhekbikpcfaaRingCut
import Derived.Test.YthomhekbikpcfaaRingJoin
namespace Go.Proofs.Ythomhekbikpcfaa
open Go.RowKit


theorem nums_range (n : Nat) : (List.range n).map (fun j : Nat => (j : Int)) = nums n := by
  induction n with
  | zero => rfl
  | succ n ih => rw [List.range_succ, List.map_append, ih, nums_succ]; rfl

set_option maxHeartbeats 400000 in
theorem len_nil (w : World) : Calls Try.prog 83 #[.pointer none] w fun e w' => e = .returned (.int .i64 0) ∧ w = w' := by
  go_enter Try.func83, Try.ntmps83
  go_wp2
  go_ret
  exact ⟨rfl, rfl⟩


end Go.Proofs.Ythomhekbikpcfaa
