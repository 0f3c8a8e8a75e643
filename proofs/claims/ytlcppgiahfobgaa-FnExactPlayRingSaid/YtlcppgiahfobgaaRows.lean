/-
  No cell of these rows narrows 'for every input' (looked for: loops, veiled, ifaces, maps, wideKeys, modest, calm, conditions, laid).
  DERIVED. THE GIVEN ROWS OF THIS SEAT. 12 by the template 'for every input the law returns true; each argument reads behind the call as it read before'; 0 by the template 'total and deterministic' (their statements: YtlcppgiahfobgaaTotals.lean).
  GIVEN WITH THE SEED: the statements are not yours to turn. If you find one false, say at which input.
  Laid BY PROGRAM, IN A SANDBOX (cutbox-rows.mjs): the forced cells as the released guide's own fill.sh prints them over the translation 18ecc8b569c86cc8… (all of the seat's roots in one cut). By AI agents, Wed Nov 11 2026. No macro, syntax, notation, axiom, sorry.
-/
import Derived.Test.YtlcppgiahfobgaaChecked
import GoSem.Claim
import GoSem.ClaimJoined
import GoSem.ClaimMapViews
import Derived.JoinedTies
import Derived.KernelRfl
namespace Go.Proofs.Ytlcppgiahfobgaa
/- THE CELL 'sum', in the pinned program and in every row, IS THE sha256 OF THE DUMP (.gsa) THAT YtlcppgiahfobgaaProg.lean LOADS. Nothing in Lean hashes anything: it is a label: what it is worth is what the hold of that sum in a sandbox is worth. -/
noncomputable def Try.pinned : Pinned := { name := "ytlcppgiahfobgaa", sum := "18ecc8b569c86cc8207bb51854721872c498c32855ef1727914731a03ab3a9ae", checked := Try.checked }
namespace Rows
def none {H : Type} : Left H := { results := [], args := [] }

/-- 'laws.FnExactLinks': WHATEVER THE INPUT: true; the input reads as it did. -/
def fnExactLinksSpec : ChangeSpec := { name := "fnExactLinks", fn := fun _ => fun
  | [d1, d2] => { results := [.lit (.bool true)], args := [d1, d2] }
  | _ => none }
def fnExactLinksRow : OpenClaim := { program := "ytlcppgiahfobgaa", sum := "18ecc8b569c86cc8207bb51854721872c498c32855ef1727914731a03ab3a9ae", func := "loop.example/lib-g01424/laws.FnExactLinks", spec := "fnExactLinks", apart := false }
def FnExactLinksSaid : Prop := fnExactLinksRow.holds Try.pinned (OpenSpec.ofChange fnExactLinksSpec)

/-- ITS FALSE NEIGHBOUR: 'it returns false'. Refute it at one input. -/
def fnExactLinksWrong : ChangeSpec := { name := "fnExactLinks", fn := fun _ => fun
  | [d1, d2] => { results := [.lit (.bool false)], args := [d1, d2] }
  | _ => none }
def FnExactLinksWrongFalsely : Prop := fnExactLinksRow.holds Try.pinned (OpenSpec.ofChange fnExactLinksWrong)

/-- 'laws.FnLinksProduct': WHATEVER THE INPUT: true; the input reads as it did. -/
def fnLinksProductSpec : ChangeSpec := { name := "fnLinksProduct", fn := fun _ => fun
  | [d1, d2, d3] => { results := [.lit (.bool true)], args := [d1, d2, d3] }
  | _ => none }
def fnLinksProductRow : OpenClaim := { program := "ytlcppgiahfobgaa", sum := "18ecc8b569c86cc8207bb51854721872c498c32855ef1727914731a03ab3a9ae", func := "loop.example/lib-g01424/laws.FnLinksProduct", spec := "fnLinksProduct", apart := false }
def FnLinksProductSaid : Prop := fnLinksProductRow.holds Try.pinned (OpenSpec.ofChange fnLinksProductSpec)

/-- ITS FALSE NEIGHBOUR: 'it returns false'. Refute it at one input. -/
def fnLinksProductWrong : ChangeSpec := { name := "fnLinksProduct", fn := fun _ => fun
  | [d1, d2, d3] => { results := [.lit (.bool false)], args := [d1, d2, d3] }
  | _ => none }
def FnLinksProductWrongFalsely : Prop := fnLinksProductRow.holds Try.pinned (OpenSpec.ofChange fnLinksProductWrong)

/-- 'laws.FnExactSortRing': WHATEVER THE INPUT: true; the input reads as it did. -/
def fnExactSortRingSpec : ChangeSpec := { name := "fnExactSortRing", fn := fun _ => fun
  | [d] => { results := [.lit (.bool true)], args := [d] }
  | _ => none }
def fnExactSortRingRow : OpenClaim := { program := "ytlcppgiahfobgaa", sum := "18ecc8b569c86cc8207bb51854721872c498c32855ef1727914731a03ab3a9ae", func := "loop.example/lib-g01424/laws.FnExactSortRing", spec := "fnExactSortRing", apart := false }
def FnExactSortRingSaid : Prop := fnExactSortRingRow.holds Try.pinned (OpenSpec.ofChange fnExactSortRingSpec)

/-- ITS FALSE NEIGHBOUR: 'it returns false'. Refute it at one input. -/
def fnExactSortRingWrong : ChangeSpec := { name := "fnExactSortRing", fn := fun _ => fun
  | [d] => { results := [.lit (.bool false)], args := [d] }
  | _ => none }
def FnExactSortRingWrongFalsely : Prop := fnExactSortRingRow.holds Try.pinned (OpenSpec.ofChange fnExactSortRingWrong)

/-- 'laws.FnExactJoinRing': WHATEVER THE INPUT: true; the input reads as it did. -/
def fnExactJoinRingSpec : ChangeSpec := { name := "fnExactJoinRing", fn := fun _ => fun
  | [d] => { results := [.lit (.bool true)], args := [d] }
  | _ => none }
def fnExactJoinRingRow : OpenClaim := { program := "ytlcppgiahfobgaa", sum := "18ecc8b569c86cc8207bb51854721872c498c32855ef1727914731a03ab3a9ae", func := "loop.example/lib-g01424/laws.FnExactJoinRing", spec := "fnExactJoinRing", unfollowed := true, recurses := true, apart := false }
def FnExactJoinRingSaid : Prop := fnExactJoinRingRow.holds Try.pinned (OpenSpec.ofChange fnExactJoinRingSpec)

/-- ITS FALSE NEIGHBOUR: 'it returns false'. Refute it at one input. -/
def fnExactJoinRingWrong : ChangeSpec := { name := "fnExactJoinRing", fn := fun _ => fun
  | [d] => { results := [.lit (.bool false)], args := [d] }
  | _ => none }
def FnExactJoinRingWrongFalsely : Prop := fnExactJoinRingRow.holds Try.pinned (OpenSpec.ofChange fnExactJoinRingWrong)

/-- 'laws.FnExactTurnRing': WHATEVER THE INPUT: true; the input reads as it did. -/
def fnExactTurnRingSpec : ChangeSpec := { name := "fnExactTurnRing", fn := fun _ => fun
  | [d1, d2] => { results := [.lit (.bool true)], args := [d1, d2] }
  | _ => none }
def fnExactTurnRingRow : OpenClaim := { program := "ytlcppgiahfobgaa", sum := "18ecc8b569c86cc8207bb51854721872c498c32855ef1727914731a03ab3a9ae", func := "loop.example/lib-g01424/laws.FnExactTurnRing", spec := "fnExactTurnRing", unfollowed := true, recurses := true, apart := false }
def FnExactTurnRingSaid : Prop := fnExactTurnRingRow.holds Try.pinned (OpenSpec.ofChange fnExactTurnRingSpec)

/-- ITS FALSE NEIGHBOUR: 'it returns false'. Refute it at one input. -/
def fnExactTurnRingWrong : ChangeSpec := { name := "fnExactTurnRing", fn := fun _ => fun
  | [d1, d2] => { results := [.lit (.bool false)], args := [d1, d2] }
  | _ => none }
def FnExactTurnRingWrongFalsely : Prop := fnExactTurnRingRow.holds Try.pinned (OpenSpec.ofChange fnExactTurnRingWrong)

/-- 'laws.FnExactCycles': WHATEVER THE INPUT: true; the input reads as it did. -/
def fnExactCyclesSpec : ChangeSpec := { name := "fnExactCycles", fn := fun _ => fun
  | [d1, d2] => { results := [.lit (.bool true)], args := [d1, d2] }
  | _ => none }
def fnExactCyclesRow : OpenClaim := { program := "ytlcppgiahfobgaa", sum := "18ecc8b569c86cc8207bb51854721872c498c32855ef1727914731a03ab3a9ae", func := "loop.example/lib-g01424/laws.FnExactCycles", spec := "fnExactCycles", unfollowed := true, recurses := true, apart := false }
def FnExactCyclesSaid : Prop := fnExactCyclesRow.holds Try.pinned (OpenSpec.ofChange fnExactCyclesSpec)

/-- ITS FALSE NEIGHBOUR: 'it returns false'. Refute it at one input. -/
def fnExactCyclesWrong : ChangeSpec := { name := "fnExactCycles", fn := fun _ => fun
  | [d1, d2] => { results := [.lit (.bool false)], args := [d1, d2] }
  | _ => none }
def FnExactCyclesWrongFalsely : Prop := fnExactCyclesRow.holds Try.pinned (OpenSpec.ofChange fnExactCyclesWrong)

/-- 'laws.FnCyclesNext': WHATEVER THE INPUT: true; the input reads as it did. -/
def fnCyclesNextSpec : ChangeSpec := { name := "fnCyclesNext", fn := fun _ => fun
  | [d1, d2] => { results := [.lit (.bool true)], args := [d1, d2] }
  | _ => none }
def fnCyclesNextRow : OpenClaim := { program := "ytlcppgiahfobgaa", sum := "18ecc8b569c86cc8207bb51854721872c498c32855ef1727914731a03ab3a9ae", func := "loop.example/lib-g01424/laws.FnCyclesNext", spec := "fnCyclesNext", unfollowed := true, recurses := true, apart := false }
def FnCyclesNextSaid : Prop := fnCyclesNextRow.holds Try.pinned (OpenSpec.ofChange fnCyclesNextSpec)

/-- ITS FALSE NEIGHBOUR: 'it returns false'. Refute it at one input. -/
def fnCyclesNextWrong : ChangeSpec := { name := "fnCyclesNext", fn := fun _ => fun
  | [d1, d2] => { results := [.lit (.bool false)], args := [d1, d2] }
  | _ => none }
def FnCyclesNextWrongFalsely : Prop := fnCyclesNextRow.holds Try.pinned (OpenSpec.ofChange fnCyclesNextWrong)

/-- 'laws.FnLinksOne': WHATEVER THE INPUT: true; the input reads as it did. -/
def fnLinksOneSpec : ChangeSpec := { name := "fnLinksOne", fn := fun _ => fun
  | [d1, d2, d3] => { results := [.lit (.bool true)], args := [d1, d2, d3] }
  | _ => none }
def fnLinksOneRow : OpenClaim := { program := "ytlcppgiahfobgaa", sum := "18ecc8b569c86cc8207bb51854721872c498c32855ef1727914731a03ab3a9ae", func := "loop.example/lib-g01424/laws.FnLinksOne", spec := "fnLinksOne", unfollowed := true, recurses := true, apart := false }
def FnLinksOneSaid : Prop := fnLinksOneRow.holds Try.pinned (OpenSpec.ofChange fnLinksOneSpec)

/-- ITS FALSE NEIGHBOUR: 'it returns false'. Refute it at one input. -/
def fnLinksOneWrong : ChangeSpec := { name := "fnLinksOne", fn := fun _ => fun
  | [d1, d2, d3] => { results := [.lit (.bool false)], args := [d1, d2, d3] }
  | _ => none }
def FnLinksOneWrongFalsely : Prop := fnLinksOneRow.holds Try.pinned (OpenSpec.ofChange fnLinksOneWrong)

/-- 'laws.FnLinksParity': WHATEVER THE INPUT: true; the input reads as it did. -/
def fnLinksParitySpec : ChangeSpec := { name := "fnLinksParity", fn := fun _ => fun
  | [d1, d2] => { results := [.lit (.bool true)], args := [d1, d2] }
  | _ => none }
def fnLinksParityRow : OpenClaim := { program := "ytlcppgiahfobgaa", sum := "18ecc8b569c86cc8207bb51854721872c498c32855ef1727914731a03ab3a9ae", func := "loop.example/lib-g01424/laws.FnLinksParity", spec := "fnLinksParity", unfollowed := true, recurses := true, apart := false }
def FnLinksParitySaid : Prop := fnLinksParityRow.holds Try.pinned (OpenSpec.ofChange fnLinksParitySpec)

/-- ITS FALSE NEIGHBOUR: 'it returns false'. Refute it at one input. -/
def fnLinksParityWrong : ChangeSpec := { name := "fnLinksParity", fn := fun _ => fun
  | [d1, d2] => { results := [.lit (.bool false)], args := [d1, d2] }
  | _ => none }
def FnLinksParityWrongFalsely : Prop := fnLinksParityRow.holds Try.pinned (OpenSpec.ofChange fnLinksParityWrong)

/-- 'laws.FnExactCircleRing': WHATEVER THE INPUT: true; the input reads as it did. -/
def fnExactCircleRingSpec : ChangeSpec := { name := "fnExactCircleRing", fn := fun _ => fun
  | [d1, d2] => { results := [.lit (.bool true)], args := [d1, d2] }
  | _ => none }
def fnExactCircleRingRow : OpenClaim := { program := "ytlcppgiahfobgaa", sum := "18ecc8b569c86cc8207bb51854721872c498c32855ef1727914731a03ab3a9ae", func := "loop.example/lib-g01424/laws.FnExactCircleRing", spec := "fnExactCircleRing", apart := false }
def FnExactCircleRingSaid : Prop := fnExactCircleRingRow.holds Try.pinned (OpenSpec.ofChange fnExactCircleRingSpec)

/-- ITS FALSE NEIGHBOUR: 'it returns false'. Refute it at one input. -/
def fnExactCircleRingWrong : ChangeSpec := { name := "fnExactCircleRing", fn := fun _ => fun
  | [d1, d2] => { results := [.lit (.bool false)], args := [d1, d2] }
  | _ => none }
def FnExactCircleRingWrongFalsely : Prop := fnExactCircleRingRow.holds Try.pinned (OpenSpec.ofChange fnExactCircleRingWrong)

/-- 'laws.FnExactSpliceRing': WHATEVER THE INPUT: true; the input reads as it did. -/
def fnExactSpliceRingSpec : ChangeSpec := { name := "fnExactSpliceRing", fn := fun _ => fun
  | [d1, d2, d3] => { results := [.lit (.bool true)], args := [d1, d2, d3] }
  | _ => none }
def fnExactSpliceRingRow : OpenClaim := { program := "ytlcppgiahfobgaa", sum := "18ecc8b569c86cc8207bb51854721872c498c32855ef1727914731a03ab3a9ae", func := "loop.example/lib-g01424/laws.FnExactSpliceRing", spec := "fnExactSpliceRing", unfollowed := true, recurses := true, apart := false }
def FnExactSpliceRingSaid : Prop := fnExactSpliceRingRow.holds Try.pinned (OpenSpec.ofChange fnExactSpliceRingSpec)

/-- ITS FALSE NEIGHBOUR: 'it returns false'. Refute it at one input. -/
def fnExactSpliceRingWrong : ChangeSpec := { name := "fnExactSpliceRing", fn := fun _ => fun
  | [d1, d2, d3] => { results := [.lit (.bool false)], args := [d1, d2, d3] }
  | _ => none }
def FnExactSpliceRingWrongFalsely : Prop := fnExactSpliceRingRow.holds Try.pinned (OpenSpec.ofChange fnExactSpliceRingWrong)

/-- 'laws.FnExactPlayRing': WHATEVER THE INPUT: true; the input reads as it did. -/
def fnExactPlayRingSpec : ChangeSpec := { name := "fnExactPlayRing", fn := fun _ => fun
  | [d1, d2] => { results := [.lit (.bool true)], args := [d1, d2] }
  | _ => none }
def fnExactPlayRingRow : OpenClaim := { program := "ytlcppgiahfobgaa", sum := "18ecc8b569c86cc8207bb51854721872c498c32855ef1727914731a03ab3a9ae", func := "loop.example/lib-g01424/laws.FnExactPlayRing", spec := "fnExactPlayRing", unfollowed := true, recurses := true, apart := false }
def FnExactPlayRingSaid : Prop := fnExactPlayRingRow.holds Try.pinned (OpenSpec.ofChange fnExactPlayRingSpec)

/-- ITS FALSE NEIGHBOUR: 'it returns false'. Refute it at one input. -/
def fnExactPlayRingWrong : ChangeSpec := { name := "fnExactPlayRing", fn := fun _ => fun
  | [d1, d2] => { results := [.lit (.bool false)], args := [d1, d2] }
  | _ => none }
def FnExactPlayRingWrongFalsely : Prop := fnExactPlayRingRow.holds Try.pinned (OpenSpec.ofChange fnExactPlayRingWrong)

/- THE SECOND FORM. 'bulk': how many values and letters a reading holds, each counted each time it is reached (what is shared counts as often as it is met; a slice's spare places count too). A statement '..UptoSaid' is the law's where the arguments, and the package variables that the reading takes, are together of bulk at most 1048576: NARROWER than '..Said'. Prove '..Said' where nothing that the law and all that it calls make is longer than what came in: it says more and counts as full. Else prove '..UptoSaid'. A law counts once. -/
mutual
def uptoBulk {H : Type} : DataW H → Nat
  | .lit (.string bytes) => bytes.length + 1
  | .lit _ => 1
  | .nil => 1
  | .ptr d => uptoBulk d + 1
  | .slice elems spare => uptoBulkAll elems + uptoBulkAll spare + 1
  | .agg parts => uptoBulkAll parts + 1
  | .iface _ d => uptoBulk d + 1
  | .map entries => uptoBulkEntries entries + 1
  | .held _ => 1
def uptoBulkAll {H : Type} : List (DataW H) → Nat
  | [] => 0
  | d :: r => uptoBulk d + uptoBulkAll r
def uptoBulkEntries {H : Type} : List (Lit × DataW H) → Nat
  | [] => 0
  | x :: r => uptoBulkEntry x + uptoBulkEntries r
def uptoBulkEntry {H : Type} : Lit × DataW H → Nat
  | (.string bytes, d) => bytes.length + uptoBulk d + 1
  | (_, d) => uptoBulk d + 1
 end
def uptoSmall : (H : Type) → List (DataW H) → Bool := fun _ ds => decide (uptoBulkAll ds ≤ 1048576)
def OpenSpec.upto (s : _root_.Go.ChangeSpec) : _root_.Go.OpenSpec := { _root_.Go.OpenSpec.ofChange s with cond := some uptoSmall }

/-- 'laws.FnExactLinks', WHERE WHAT IT READS IS OF BULK AT MOST 1048576: true; the input reads as it did. -/
def fnExactLinksUptoRow : OpenClaim := { program := "ytlcppgiahfobgaa", sum := "18ecc8b569c86cc8207bb51854721872c498c32855ef1727914731a03ab3a9ae", func := "loop.example/lib-g01424/laws.FnExactLinks", spec := "fnExactLinks", apart := false, narrowed := true }
def FnExactLinksUptoSaid : Prop := fnExactLinksUptoRow.holds Try.pinned (OpenSpec.upto fnExactLinksSpec)

/-- 'laws.FnLinksProduct', WHERE WHAT IT READS IS OF BULK AT MOST 1048576: true; the input reads as it did. -/
def fnLinksProductUptoRow : OpenClaim := { program := "ytlcppgiahfobgaa", sum := "18ecc8b569c86cc8207bb51854721872c498c32855ef1727914731a03ab3a9ae", func := "loop.example/lib-g01424/laws.FnLinksProduct", spec := "fnLinksProduct", apart := false, narrowed := true }
def FnLinksProductUptoSaid : Prop := fnLinksProductUptoRow.holds Try.pinned (OpenSpec.upto fnLinksProductSpec)

/-- 'laws.FnExactSortRing', WHERE WHAT IT READS IS OF BULK AT MOST 1048576: true; the input reads as it did. -/
def fnExactSortRingUptoRow : OpenClaim := { program := "ytlcppgiahfobgaa", sum := "18ecc8b569c86cc8207bb51854721872c498c32855ef1727914731a03ab3a9ae", func := "loop.example/lib-g01424/laws.FnExactSortRing", spec := "fnExactSortRing", apart := false, narrowed := true }
def FnExactSortRingUptoSaid : Prop := fnExactSortRingUptoRow.holds Try.pinned (OpenSpec.upto fnExactSortRingSpec)

/-- 'laws.FnExactJoinRing', WHERE WHAT IT READS IS OF BULK AT MOST 1048576: true; the input reads as it did. -/
def fnExactJoinRingUptoRow : OpenClaim := { program := "ytlcppgiahfobgaa", sum := "18ecc8b569c86cc8207bb51854721872c498c32855ef1727914731a03ab3a9ae", func := "loop.example/lib-g01424/laws.FnExactJoinRing", spec := "fnExactJoinRing", unfollowed := true, recurses := true, apart := false, narrowed := true }
def FnExactJoinRingUptoSaid : Prop := fnExactJoinRingUptoRow.holds Try.pinned (OpenSpec.upto fnExactJoinRingSpec)

/-- 'laws.FnExactTurnRing', WHERE WHAT IT READS IS OF BULK AT MOST 1048576: true; the input reads as it did. -/
def fnExactTurnRingUptoRow : OpenClaim := { program := "ytlcppgiahfobgaa", sum := "18ecc8b569c86cc8207bb51854721872c498c32855ef1727914731a03ab3a9ae", func := "loop.example/lib-g01424/laws.FnExactTurnRing", spec := "fnExactTurnRing", unfollowed := true, recurses := true, apart := false, narrowed := true }
def FnExactTurnRingUptoSaid : Prop := fnExactTurnRingUptoRow.holds Try.pinned (OpenSpec.upto fnExactTurnRingSpec)

/-- 'laws.FnExactCycles', WHERE WHAT IT READS IS OF BULK AT MOST 1048576: true; the input reads as it did. -/
def fnExactCyclesUptoRow : OpenClaim := { program := "ytlcppgiahfobgaa", sum := "18ecc8b569c86cc8207bb51854721872c498c32855ef1727914731a03ab3a9ae", func := "loop.example/lib-g01424/laws.FnExactCycles", spec := "fnExactCycles", unfollowed := true, recurses := true, apart := false, narrowed := true }
def FnExactCyclesUptoSaid : Prop := fnExactCyclesUptoRow.holds Try.pinned (OpenSpec.upto fnExactCyclesSpec)

/-- 'laws.FnCyclesNext', WHERE WHAT IT READS IS OF BULK AT MOST 1048576: true; the input reads as it did. -/
def fnCyclesNextUptoRow : OpenClaim := { program := "ytlcppgiahfobgaa", sum := "18ecc8b569c86cc8207bb51854721872c498c32855ef1727914731a03ab3a9ae", func := "loop.example/lib-g01424/laws.FnCyclesNext", spec := "fnCyclesNext", unfollowed := true, recurses := true, apart := false, narrowed := true }
def FnCyclesNextUptoSaid : Prop := fnCyclesNextUptoRow.holds Try.pinned (OpenSpec.upto fnCyclesNextSpec)

/-- 'laws.FnLinksOne', WHERE WHAT IT READS IS OF BULK AT MOST 1048576: true; the input reads as it did. -/
def fnLinksOneUptoRow : OpenClaim := { program := "ytlcppgiahfobgaa", sum := "18ecc8b569c86cc8207bb51854721872c498c32855ef1727914731a03ab3a9ae", func := "loop.example/lib-g01424/laws.FnLinksOne", spec := "fnLinksOne", unfollowed := true, recurses := true, apart := false, narrowed := true }
def FnLinksOneUptoSaid : Prop := fnLinksOneUptoRow.holds Try.pinned (OpenSpec.upto fnLinksOneSpec)

/-- 'laws.FnLinksParity', WHERE WHAT IT READS IS OF BULK AT MOST 1048576: true; the input reads as it did. -/
def fnLinksParityUptoRow : OpenClaim := { program := "ytlcppgiahfobgaa", sum := "18ecc8b569c86cc8207bb51854721872c498c32855ef1727914731a03ab3a9ae", func := "loop.example/lib-g01424/laws.FnLinksParity", spec := "fnLinksParity", unfollowed := true, recurses := true, apart := false, narrowed := true }
def FnLinksParityUptoSaid : Prop := fnLinksParityUptoRow.holds Try.pinned (OpenSpec.upto fnLinksParitySpec)

/-- 'laws.FnExactCircleRing', WHERE WHAT IT READS IS OF BULK AT MOST 1048576: true; the input reads as it did. -/
def fnExactCircleRingUptoRow : OpenClaim := { program := "ytlcppgiahfobgaa", sum := "18ecc8b569c86cc8207bb51854721872c498c32855ef1727914731a03ab3a9ae", func := "loop.example/lib-g01424/laws.FnExactCircleRing", spec := "fnExactCircleRing", apart := false, narrowed := true }
def FnExactCircleRingUptoSaid : Prop := fnExactCircleRingUptoRow.holds Try.pinned (OpenSpec.upto fnExactCircleRingSpec)

/-- 'laws.FnExactSpliceRing', WHERE WHAT IT READS IS OF BULK AT MOST 1048576: true; the input reads as it did. -/
def fnExactSpliceRingUptoRow : OpenClaim := { program := "ytlcppgiahfobgaa", sum := "18ecc8b569c86cc8207bb51854721872c498c32855ef1727914731a03ab3a9ae", func := "loop.example/lib-g01424/laws.FnExactSpliceRing", spec := "fnExactSpliceRing", unfollowed := true, recurses := true, apart := false, narrowed := true }
def FnExactSpliceRingUptoSaid : Prop := fnExactSpliceRingUptoRow.holds Try.pinned (OpenSpec.upto fnExactSpliceRingSpec)

/-- 'laws.FnExactPlayRing', WHERE WHAT IT READS IS OF BULK AT MOST 1048576: true; the input reads as it did. -/
def fnExactPlayRingUptoRow : OpenClaim := { program := "ytlcppgiahfobgaa", sum := "18ecc8b569c86cc8207bb51854721872c498c32855ef1727914731a03ab3a9ae", func := "loop.example/lib-g01424/laws.FnExactPlayRing", spec := "fnExactPlayRing", unfollowed := true, recurses := true, apart := false, narrowed := true }
def FnExactPlayRingUptoSaid : Prop := fnExactPlayRingUptoRow.holds Try.pinned (OpenSpec.upto fnExactPlayRingSpec)

end Rows
end Go.Proofs.Ytlcppgiahfobgaa
