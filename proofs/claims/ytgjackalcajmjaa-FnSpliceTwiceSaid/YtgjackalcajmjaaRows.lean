/-
  No cell of these rows narrows 'for every input' (looked for: loops, veiled, ifaces, maps, wideKeys, modest, calm, conditions, laid).
  DERIVED. THE GIVEN ROWS OF THIS SEAT. 9 by the template 'for every input the law returns true; each argument reads behind the call as it read before'; 0 by the template 'total and deterministic' (their statements: YtgjackalcajmjaaTotals.lean).
  GIVEN WITH THE SEED: the statements are not yours to turn. If you find one false, say at which input.
  Laid BY PROGRAM, IN A SANDBOX (cutbox-rows.mjs): the forced cells as the released guide's own fill.sh prints them over the translation 767e8218e832fb70… (all of the seat's roots in one cut). By AI agents, Wed Nov 11 2026. No macro, syntax, notation, axiom, sorry.
-/
import Derived.Test.YtgjackalcajmjaaChecked
import GoSem.Claim
import GoSem.ClaimJoined
import GoSem.ClaimMapViews
import Derived.JoinedTies
import Derived.KernelRfl
namespace Go.Proofs.Ytgjackalcajmjaa
/- THE CELL 'sum', in the pinned program and in every row, IS THE sha256 OF THE DUMP (.gsa) THAT YtgjackalcajmjaaProg.lean LOADS. Nothing in Lean hashes anything: it is a label: what it is worth is what the hold of that sum in a sandbox is worth. -/
noncomputable def Try.pinned : Pinned := { name := "ytgjackalcajmjaa", sum := "767e8218e832fb70f3e29e11ec592b0471c807abb74bdd39ff8cca850a4073ca", checked := Try.checked }
namespace Rows
def none {H : Type} : Left H := { results := [], args := [] }

/-- 'laws.FnDealGather': WHATEVER THE INPUT: true; the input reads as it did. -/
def fnDealGatherSpec : ChangeSpec := { name := "fnDealGather", fn := fun _ => fun
  | [d1, d2] => { results := [.lit (.bool true)], args := [d1, d2] }
  | _ => none }
def fnDealGatherRow : OpenClaim := { program := "ytgjackalcajmjaa", sum := "767e8218e832fb70f3e29e11ec592b0471c807abb74bdd39ff8cca850a4073ca", func := "loop.example/lib-g01424/laws.FnDealGather", spec := "fnDealGather", unfollowed := true, recurses := true, apart := false }
def FnDealGatherSaid : Prop := fnDealGatherRow.holds Try.pinned (OpenSpec.ofChange fnDealGatherSpec)

/-- ITS FALSE NEIGHBOUR: 'it returns false'. Refute it at one input. -/
def fnDealGatherWrong : ChangeSpec := { name := "fnDealGather", fn := fun _ => fun
  | [d1, d2] => { results := [.lit (.bool false)], args := [d1, d2] }
  | _ => none }
def FnDealGatherWrongFalsely : Prop := fnDealGatherRow.holds Try.pinned (OpenSpec.ofChange fnDealGatherWrong)

/-- 'laws.FnDealTwice': WHATEVER THE INPUT: true; the input reads as it did. -/
def fnDealTwiceSpec : ChangeSpec := { name := "fnDealTwice", fn := fun _ => fun
  | [d1, d2] => { results := [.lit (.bool true)], args := [d1, d2] }
  | _ => none }
def fnDealTwiceRow : OpenClaim := { program := "ytgjackalcajmjaa", sum := "767e8218e832fb70f3e29e11ec592b0471c807abb74bdd39ff8cca850a4073ca", func := "loop.example/lib-g01424/laws.FnDealTwice", spec := "fnDealTwice", unfollowed := true, recurses := true, apart := false }
def FnDealTwiceSaid : Prop := fnDealTwiceRow.holds Try.pinned (OpenSpec.ofChange fnDealTwiceSpec)

/-- ITS FALSE NEIGHBOUR: 'it returns false'. Refute it at one input. -/
def fnDealTwiceWrong : ChangeSpec := { name := "fnDealTwice", fn := fun _ => fun
  | [d1, d2] => { results := [.lit (.bool false)], args := [d1, d2] }
  | _ => none }
def FnDealTwiceWrongFalsely : Prop := fnDealTwiceRow.holds Try.pinned (OpenSpec.ofChange fnDealTwiceWrong)

/-- 'laws.FnGatherBoth': WHATEVER THE INPUT: true; the input reads as it did. -/
def fnGatherBothSpec : ChangeSpec := { name := "fnGatherBoth", fn := fun _ => fun
  | [d] => { results := [.lit (.bool true)], args := [d] }
  | _ => none }
def fnGatherBothRow : OpenClaim := { program := "ytgjackalcajmjaa", sum := "767e8218e832fb70f3e29e11ec592b0471c807abb74bdd39ff8cca850a4073ca", func := "loop.example/lib-g01424/laws.FnGatherBoth", spec := "fnGatherBoth", apart := false }
def FnGatherBothSaid : Prop := fnGatherBothRow.holds Try.pinned (OpenSpec.ofChange fnGatherBothSpec)

/-- ITS FALSE NEIGHBOUR: 'it returns false'. Refute it at one input. -/
def fnGatherBothWrong : ChangeSpec := { name := "fnGatherBoth", fn := fun _ => fun
  | [d] => { results := [.lit (.bool false)], args := [d] }
  | _ => none }
def FnGatherBothWrongFalsely : Prop := fnGatherBothRow.holds Try.pinned (OpenSpec.ofChange fnGatherBothWrong)

/-- 'laws.FnSortBoth': WHATEVER THE INPUT: true; the input reads as it did. -/
def fnSortBothSpec : ChangeSpec := { name := "fnSortBoth", fn := fun _ => fun
  | [d] => { results := [.lit (.bool true)], args := [d] }
  | _ => none }
def fnSortBothRow : OpenClaim := { program := "ytgjackalcajmjaa", sum := "767e8218e832fb70f3e29e11ec592b0471c807abb74bdd39ff8cca850a4073ca", func := "loop.example/lib-g01424/laws.FnSortBoth", spec := "fnSortBoth", apart := false }
def FnSortBothSaid : Prop := fnSortBothRow.holds Try.pinned (OpenSpec.ofChange fnSortBothSpec)

/-- ITS FALSE NEIGHBOUR: 'it returns false'. Refute it at one input. -/
def fnSortBothWrong : ChangeSpec := { name := "fnSortBoth", fn := fun _ => fun
  | [d] => { results := [.lit (.bool false)], args := [d] }
  | _ => none }
def FnSortBothWrongFalsely : Prop := fnSortBothRow.holds Try.pinned (OpenSpec.ofChange fnSortBothWrong)

/-- 'laws.FnSortJoined': WHATEVER THE INPUT: true; the input reads as it did. -/
def fnSortJoinedSpec : ChangeSpec := { name := "fnSortJoined", fn := fun _ => fun
  | [d1, d2] => { results := [.lit (.bool true)], args := [d1, d2] }
  | _ => none }
def fnSortJoinedRow : OpenClaim := { program := "ytgjackalcajmjaa", sum := "767e8218e832fb70f3e29e11ec592b0471c807abb74bdd39ff8cca850a4073ca", func := "loop.example/lib-g01424/laws.FnSortJoined", spec := "fnSortJoined", unfollowed := true, recurses := true, apart := false }
def FnSortJoinedSaid : Prop := fnSortJoinedRow.holds Try.pinned (OpenSpec.ofChange fnSortJoinedSpec)

/-- ITS FALSE NEIGHBOUR: 'it returns false'. Refute it at one input. -/
def fnSortJoinedWrong : ChangeSpec := { name := "fnSortJoined", fn := fun _ => fun
  | [d1, d2] => { results := [.lit (.bool false)], args := [d1, d2] }
  | _ => none }
def FnSortJoinedWrongFalsely : Prop := fnSortJoinedRow.holds Try.pinned (OpenSpec.ofChange fnSortJoinedWrong)

/-- 'laws.FnJoinBoth': WHATEVER THE INPUT: true; the input reads as it did. -/
def fnJoinBothSpec : ChangeSpec := { name := "fnJoinBoth", fn := fun _ => fun
  | [d] => { results := [.lit (.bool true)], args := [d] }
  | _ => none }
def fnJoinBothRow : OpenClaim := { program := "ytgjackalcajmjaa", sum := "767e8218e832fb70f3e29e11ec592b0471c807abb74bdd39ff8cca850a4073ca", func := "loop.example/lib-g01424/laws.FnJoinBoth", spec := "fnJoinBoth", unfollowed := true, recurses := true, apart := false }
def FnJoinBothSaid : Prop := fnJoinBothRow.holds Try.pinned (OpenSpec.ofChange fnJoinBothSpec)

/-- ITS FALSE NEIGHBOUR: 'it returns false'. Refute it at one input. -/
def fnJoinBothWrong : ChangeSpec := { name := "fnJoinBoth", fn := fun _ => fun
  | [d] => { results := [.lit (.bool false)], args := [d] }
  | _ => none }
def FnJoinBothWrongFalsely : Prop := fnJoinBothRow.holds Try.pinned (OpenSpec.ofChange fnJoinBothWrong)

/-- 'laws.FnJoinNested': WHATEVER THE INPUT: true; the input reads as it did. -/
def fnJoinNestedSpec : ChangeSpec := { name := "fnJoinNested", fn := fun _ => fun
  | [d1, d2] => { results := [.lit (.bool true)], args := [d1, d2] }
  | _ => none }
def fnJoinNestedRow : OpenClaim := { program := "ytgjackalcajmjaa", sum := "767e8218e832fb70f3e29e11ec592b0471c807abb74bdd39ff8cca850a4073ca", func := "loop.example/lib-g01424/laws.FnJoinNested", spec := "fnJoinNested", unfollowed := true, recurses := true, apart := false }
def FnJoinNestedSaid : Prop := fnJoinNestedRow.holds Try.pinned (OpenSpec.ofChange fnJoinNestedSpec)

/-- ITS FALSE NEIGHBOUR: 'it returns false'. Refute it at one input. -/
def fnJoinNestedWrong : ChangeSpec := { name := "fnJoinNested", fn := fun _ => fun
  | [d1, d2] => { results := [.lit (.bool false)], args := [d1, d2] }
  | _ => none }
def FnJoinNestedWrongFalsely : Prop := fnJoinNestedRow.holds Try.pinned (OpenSpec.ofChange fnJoinNestedWrong)

/-- 'laws.FnSpliceTwice': WHATEVER THE INPUT: true; the input reads as it did. -/
def fnSpliceTwiceSpec : ChangeSpec := { name := "fnSpliceTwice", fn := fun _ => fun
  | [d1, d2, d3] => { results := [.lit (.bool true)], args := [d1, d2, d3] }
  | _ => none }
def fnSpliceTwiceRow : OpenClaim := { program := "ytgjackalcajmjaa", sum := "767e8218e832fb70f3e29e11ec592b0471c807abb74bdd39ff8cca850a4073ca", func := "loop.example/lib-g01424/laws.FnSpliceTwice", spec := "fnSpliceTwice", unfollowed := true, recurses := true, apart := false }
def FnSpliceTwiceSaid : Prop := fnSpliceTwiceRow.holds Try.pinned (OpenSpec.ofChange fnSpliceTwiceSpec)

/-- ITS FALSE NEIGHBOUR: 'it returns false'. Refute it at one input. -/
def fnSpliceTwiceWrong : ChangeSpec := { name := "fnSpliceTwice", fn := fun _ => fun
  | [d1, d2, d3] => { results := [.lit (.bool false)], args := [d1, d2, d3] }
  | _ => none }
def FnSpliceTwiceWrongFalsely : Prop := fnSpliceTwiceRow.holds Try.pinned (OpenSpec.ofChange fnSpliceTwiceWrong)

/-- 'laws.FnSpliceBoth': WHATEVER THE INPUT: true; the input reads as it did. -/
def fnSpliceBothSpec : ChangeSpec := { name := "fnSpliceBoth", fn := fun _ => fun
  | [d1, d2, d3] => { results := [.lit (.bool true)], args := [d1, d2, d3] }
  | _ => none }
def fnSpliceBothRow : OpenClaim := { program := "ytgjackalcajmjaa", sum := "767e8218e832fb70f3e29e11ec592b0471c807abb74bdd39ff8cca850a4073ca", func := "loop.example/lib-g01424/laws.FnSpliceBoth", spec := "fnSpliceBoth", unfollowed := true, recurses := true, apart := false }
def FnSpliceBothSaid : Prop := fnSpliceBothRow.holds Try.pinned (OpenSpec.ofChange fnSpliceBothSpec)

/-- ITS FALSE NEIGHBOUR: 'it returns false'. Refute it at one input. -/
def fnSpliceBothWrong : ChangeSpec := { name := "fnSpliceBoth", fn := fun _ => fun
  | [d1, d2, d3] => { results := [.lit (.bool false)], args := [d1, d2, d3] }
  | _ => none }
def FnSpliceBothWrongFalsely : Prop := fnSpliceBothRow.holds Try.pinned (OpenSpec.ofChange fnSpliceBothWrong)

/- THE SECOND FORM. 'bulk': how many values and letters a reading holds, each counted each time it is reached (what is shared counts as often as it is met; a slice's spare places count too). A statement '..UptoSaid' is the law's where the arguments, and the package variables that the reading takes, are together of bulk at most 1048576: NARROWER than '..Said'. Prove '..Said' where nothing that the law and all that it calls make is longer than what came in: it says more and counts as full. Else prove '..UptoSaid'. A law counts once. -/
mutual
def uptoBulk {H : Type} : DataW H → Nat
  | .lit (.string bytes) => bytes.length + 1
  | .lit _ => 1
  | .nil => 1
  | .ptr d => uptoBulk d + 1
  | .slice elems spare => uptoBulkAll elems + uptoBulkAll spare + 1
  | .agg parts => uptoBulkAll parts + 1
  | .iface _ d => uptoBulk d + 1
  | .map entries => uptoBulkEntries entries + 1
  | .held _ => 1
def uptoBulkAll {H : Type} : List (DataW H) → Nat
  | [] => 0
  | d :: r => uptoBulk d + uptoBulkAll r
def uptoBulkEntries {H : Type} : List (Lit × DataW H) → Nat
  | [] => 0
  | x :: r => uptoBulkEntry x + uptoBulkEntries r
def uptoBulkEntry {H : Type} : Lit × DataW H → Nat
  | (.string bytes, d) => bytes.length + uptoBulk d + 1
  | (_, d) => uptoBulk d + 1
 end
def uptoSmall : (H : Type) → List (DataW H) → Bool := fun _ ds => decide (uptoBulkAll ds ≤ 1048576)
def OpenSpec.upto (s : _root_.Go.ChangeSpec) : _root_.Go.OpenSpec := { _root_.Go.OpenSpec.ofChange s with cond := some uptoSmall }

/-- 'laws.FnDealGather', WHERE WHAT IT READS IS OF BULK AT MOST 1048576: true; the input reads as it did. -/
def fnDealGatherUptoRow : OpenClaim := { program := "ytgjackalcajmjaa", sum := "767e8218e832fb70f3e29e11ec592b0471c807abb74bdd39ff8cca850a4073ca", func := "loop.example/lib-g01424/laws.FnDealGather", spec := "fnDealGather", unfollowed := true, recurses := true, apart := false, narrowed := true }
def FnDealGatherUptoSaid : Prop := fnDealGatherUptoRow.holds Try.pinned (OpenSpec.upto fnDealGatherSpec)

/-- 'laws.FnDealTwice', WHERE WHAT IT READS IS OF BULK AT MOST 1048576: true; the input reads as it did. -/
def fnDealTwiceUptoRow : OpenClaim := { program := "ytgjackalcajmjaa", sum := "767e8218e832fb70f3e29e11ec592b0471c807abb74bdd39ff8cca850a4073ca", func := "loop.example/lib-g01424/laws.FnDealTwice", spec := "fnDealTwice", unfollowed := true, recurses := true, apart := false, narrowed := true }
def FnDealTwiceUptoSaid : Prop := fnDealTwiceUptoRow.holds Try.pinned (OpenSpec.upto fnDealTwiceSpec)

/-- 'laws.FnGatherBoth', WHERE WHAT IT READS IS OF BULK AT MOST 1048576: true; the input reads as it did. -/
def fnGatherBothUptoRow : OpenClaim := { program := "ytgjackalcajmjaa", sum := "767e8218e832fb70f3e29e11ec592b0471c807abb74bdd39ff8cca850a4073ca", func := "loop.example/lib-g01424/laws.FnGatherBoth", spec := "fnGatherBoth", apart := false, narrowed := true }
def FnGatherBothUptoSaid : Prop := fnGatherBothUptoRow.holds Try.pinned (OpenSpec.upto fnGatherBothSpec)

/-- 'laws.FnSortBoth', WHERE WHAT IT READS IS OF BULK AT MOST 1048576: true; the input reads as it did. -/
def fnSortBothUptoRow : OpenClaim := { program := "ytgjackalcajmjaa", sum := "767e8218e832fb70f3e29e11ec592b0471c807abb74bdd39ff8cca850a4073ca", func := "loop.example/lib-g01424/laws.FnSortBoth", spec := "fnSortBoth", apart := false, narrowed := true }
def FnSortBothUptoSaid : Prop := fnSortBothUptoRow.holds Try.pinned (OpenSpec.upto fnSortBothSpec)

/-- 'laws.FnSortJoined', WHERE WHAT IT READS IS OF BULK AT MOST 1048576: true; the input reads as it did. -/
def fnSortJoinedUptoRow : OpenClaim := { program := "ytgjackalcajmjaa", sum := "767e8218e832fb70f3e29e11ec592b0471c807abb74bdd39ff8cca850a4073ca", func := "loop.example/lib-g01424/laws.FnSortJoined", spec := "fnSortJoined", unfollowed := true, recurses := true, apart := false, narrowed := true }
def FnSortJoinedUptoSaid : Prop := fnSortJoinedUptoRow.holds Try.pinned (OpenSpec.upto fnSortJoinedSpec)

/-- 'laws.FnJoinBoth', WHERE WHAT IT READS IS OF BULK AT MOST 1048576: true; the input reads as it did. -/
def fnJoinBothUptoRow : OpenClaim := { program := "ytgjackalcajmjaa", sum := "767e8218e832fb70f3e29e11ec592b0471c807abb74bdd39ff8cca850a4073ca", func := "loop.example/lib-g01424/laws.FnJoinBoth", spec := "fnJoinBoth", unfollowed := true, recurses := true, apart := false, narrowed := true }
def FnJoinBothUptoSaid : Prop := fnJoinBothUptoRow.holds Try.pinned (OpenSpec.upto fnJoinBothSpec)

/-- 'laws.FnJoinNested', WHERE WHAT IT READS IS OF BULK AT MOST 1048576: true; the input reads as it did. -/
def fnJoinNestedUptoRow : OpenClaim := { program := "ytgjackalcajmjaa", sum := "767e8218e832fb70f3e29e11ec592b0471c807abb74bdd39ff8cca850a4073ca", func := "loop.example/lib-g01424/laws.FnJoinNested", spec := "fnJoinNested", unfollowed := true, recurses := true, apart := false, narrowed := true }
def FnJoinNestedUptoSaid : Prop := fnJoinNestedUptoRow.holds Try.pinned (OpenSpec.upto fnJoinNestedSpec)

/-- 'laws.FnSpliceTwice', WHERE WHAT IT READS IS OF BULK AT MOST 1048576: true; the input reads as it did. -/
def fnSpliceTwiceUptoRow : OpenClaim := { program := "ytgjackalcajmjaa", sum := "767e8218e832fb70f3e29e11ec592b0471c807abb74bdd39ff8cca850a4073ca", func := "loop.example/lib-g01424/laws.FnSpliceTwice", spec := "fnSpliceTwice", unfollowed := true, recurses := true, apart := false, narrowed := true }
def FnSpliceTwiceUptoSaid : Prop := fnSpliceTwiceUptoRow.holds Try.pinned (OpenSpec.upto fnSpliceTwiceSpec)

/-- 'laws.FnSpliceBoth', WHERE WHAT IT READS IS OF BULK AT MOST 1048576: true; the input reads as it did. -/
def fnSpliceBothUptoRow : OpenClaim := { program := "ytgjackalcajmjaa", sum := "767e8218e832fb70f3e29e11ec592b0471c807abb74bdd39ff8cca850a4073ca", func := "loop.example/lib-g01424/laws.FnSpliceBoth", spec := "fnSpliceBoth", unfollowed := true, recurses := true, apart := false, narrowed := true }
def FnSpliceBothUptoSaid : Prop := fnSpliceBothUptoRow.holds Try.pinned (OpenSpec.upto fnSpliceBothSpec)

end Rows
end Go.Proofs.Ytgjackalcajmjaa
