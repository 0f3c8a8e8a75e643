/-
  No cell of these rows narrows 'for every input' (looked for: loops, veiled, ifaces, maps, wideKeys, modest, calm, conditions, laid).
  DERIVED. THE GIVEN ROWS OF THIS SEAT. 12 by the template 'for every input the law returns true; each argument reads behind the call as it read before'; 0 by the template 'total and deterministic' (their statements: YthomhekbikpcfaaTotals.lean).
  GIVEN WITH THE SEED: the statements are not yours to turn. If you find one false, say at which input.
  Laid BY PROGRAM, IN A SANDBOX (cutbox-rows.mjs): the forced cells as the released guide's own fill.sh prints them over the translation 0caf35b7ca687e1f… (all of the seat's roots in one cut). By AI agents, Wed Nov 11 2026. No macro, syntax, notation, axiom, sorry.
-/
import Derived.Test.YthomhekbikpcfaaChecked
import GoSem.Claim
import GoSem.ClaimJoined
import GoSem.ClaimMapViews
import Derived.JoinedTies
import Derived.KernelRfl
namespace Go.Proofs.Ythomhekbikpcfaa
/- THE CELL 'sum', in the pinned program and in every row, IS THE sha256 OF THE DUMP (.gsa) THAT YthomhekbikpcfaaProg.lean LOADS. Nothing in Lean hashes anything: it is a label: what it is worth is what the hold of that sum in a sandbox is worth. -/
noncomputable def Try.pinned : Pinned := { name := "ythomhekbikpcfaa", sum := "0caf35b7ca687e1fdd3d5cf5624e40ef5b761cb98391960417ae475941e584bc", checked := Try.checked }
namespace Rows
def none {H : Type} : Left H := { results := [], args := [] }

/-- 'laws.FnExactJoinList': WHATEVER THE INPUT: true; the input reads as it did. -/
def fnExactJoinListSpec : ChangeSpec := { name := "fnExactJoinList", fn := fun _ => fun
  | [d] => { results := [.lit (.bool true)], args := [d] }
  | _ => none }
def fnExactJoinListRow : OpenClaim := { program := "ythomhekbikpcfaa", sum := "0caf35b7ca687e1fdd3d5cf5624e40ef5b761cb98391960417ae475941e584bc", func := "loop.example/lib-g01424/laws.FnExactJoinList", spec := "fnExactJoinList", apart := false }
def FnExactJoinListSaid : Prop := fnExactJoinListRow.holds Try.pinned (OpenSpec.ofChange fnExactJoinListSpec)

/-- ITS FALSE NEIGHBOUR: 'it returns false'. Refute it at one input. -/
def fnExactJoinListWrong : ChangeSpec := { name := "fnExactJoinList", fn := fun _ => fun
  | [d] => { results := [.lit (.bool false)], args := [d] }
  | _ => none }
def FnExactJoinListWrongFalsely : Prop := fnExactJoinListRow.holds Try.pinned (OpenSpec.ofChange fnExactJoinListWrong)

/-- 'laws.FnExactSortList': WHATEVER THE INPUT: true; the input reads as it did. -/
def fnExactSortListSpec : ChangeSpec := { name := "fnExactSortList", fn := fun _ => fun
  | [d] => { results := [.lit (.bool true)], args := [d] }
  | _ => none }
def fnExactSortListRow : OpenClaim := { program := "ythomhekbikpcfaa", sum := "0caf35b7ca687e1fdd3d5cf5624e40ef5b761cb98391960417ae475941e584bc", func := "loop.example/lib-g01424/laws.FnExactSortList", spec := "fnExactSortList", apart := false }
def FnExactSortListSaid : Prop := fnExactSortListRow.holds Try.pinned (OpenSpec.ofChange fnExactSortListSpec)

/-- ITS FALSE NEIGHBOUR: 'it returns false'. Refute it at one input. -/
def fnExactSortListWrong : ChangeSpec := { name := "fnExactSortList", fn := fun _ => fun
  | [d] => { results := [.lit (.bool false)], args := [d] }
  | _ => none }
def FnExactSortListWrongFalsely : Prop := fnExactSortListRow.holds Try.pinned (OpenSpec.ofChange fnExactSortListWrong)

/-- 'laws.FnExactTurnList': WHATEVER THE INPUT: true; the input reads as it did. -/
def fnExactTurnListSpec : ChangeSpec := { name := "fnExactTurnList", fn := fun _ => fun
  | [d1, d2] => { results := [.lit (.bool true)], args := [d1, d2] }
  | _ => none }
def fnExactTurnListRow : OpenClaim := { program := "ythomhekbikpcfaa", sum := "0caf35b7ca687e1fdd3d5cf5624e40ef5b761cb98391960417ae475941e584bc", func := "loop.example/lib-g01424/laws.FnExactTurnList", spec := "fnExactTurnList", apart := false }
def FnExactTurnListSaid : Prop := fnExactTurnListRow.holds Try.pinned (OpenSpec.ofChange fnExactTurnListSpec)

/-- ITS FALSE NEIGHBOUR: 'it returns false'. Refute it at one input. -/
def fnExactTurnListWrong : ChangeSpec := { name := "fnExactTurnList", fn := fun _ => fun
  | [d1, d2] => { results := [.lit (.bool false)], args := [d1, d2] }
  | _ => none }
def FnExactTurnListWrongFalsely : Prop := fnExactTurnListRow.holds Try.pinned (OpenSpec.ofChange fnExactTurnListWrong)

/-- 'laws.FnExactCircleList': WHATEVER THE INPUT: true; the input reads as it did. -/
def fnExactCircleListSpec : ChangeSpec := { name := "fnExactCircleList", fn := fun _ => fun
  | [d1, d2] => { results := [.lit (.bool true)], args := [d1, d2] }
  | _ => none }
def fnExactCircleListRow : OpenClaim := { program := "ythomhekbikpcfaa", sum := "0caf35b7ca687e1fdd3d5cf5624e40ef5b761cb98391960417ae475941e584bc", func := "loop.example/lib-g01424/laws.FnExactCircleList", spec := "fnExactCircleList", apart := false }
def FnExactCircleListSaid : Prop := fnExactCircleListRow.holds Try.pinned (OpenSpec.ofChange fnExactCircleListSpec)

/-- ITS FALSE NEIGHBOUR: 'it returns false'. Refute it at one input. -/
def fnExactCircleListWrong : ChangeSpec := { name := "fnExactCircleList", fn := fun _ => fun
  | [d1, d2] => { results := [.lit (.bool false)], args := [d1, d2] }
  | _ => none }
def FnExactCircleListWrongFalsely : Prop := fnExactCircleListRow.holds Try.pinned (OpenSpec.ofChange fnExactCircleListWrong)

/-- 'laws.FnExactDealList': WHATEVER THE INPUT: true; the input reads as it did. -/
def fnExactDealListSpec : ChangeSpec := { name := "fnExactDealList", fn := fun _ => fun
  | [d1, d2] => { results := [.lit (.bool true)], args := [d1, d2] }
  | _ => none }
def fnExactDealListRow : OpenClaim := { program := "ythomhekbikpcfaa", sum := "0caf35b7ca687e1fdd3d5cf5624e40ef5b761cb98391960417ae475941e584bc", func := "loop.example/lib-g01424/laws.FnExactDealList", spec := "fnExactDealList", apart := false }
def FnExactDealListSaid : Prop := fnExactDealListRow.holds Try.pinned (OpenSpec.ofChange fnExactDealListSpec)

/-- ITS FALSE NEIGHBOUR: 'it returns false'. Refute it at one input. -/
def fnExactDealListWrong : ChangeSpec := { name := "fnExactDealList", fn := fun _ => fun
  | [d1, d2] => { results := [.lit (.bool false)], args := [d1, d2] }
  | _ => none }
def FnExactDealListWrongFalsely : Prop := fnExactDealListRow.holds Try.pinned (OpenSpec.ofChange fnExactDealListWrong)

/-- 'laws.FnExactGatherList': WHATEVER THE INPUT: true; the input reads as it did. -/
def fnExactGatherListSpec : ChangeSpec := { name := "fnExactGatherList", fn := fun _ => fun
  | [d] => { results := [.lit (.bool true)], args := [d] }
  | _ => none }
def fnExactGatherListRow : OpenClaim := { program := "ythomhekbikpcfaa", sum := "0caf35b7ca687e1fdd3d5cf5624e40ef5b761cb98391960417ae475941e584bc", func := "loop.example/lib-g01424/laws.FnExactGatherList", spec := "fnExactGatherList", apart := false }
def FnExactGatherListSaid : Prop := fnExactGatherListRow.holds Try.pinned (OpenSpec.ofChange fnExactGatherListSpec)

/-- ITS FALSE NEIGHBOUR: 'it returns false'. Refute it at one input. -/
def fnExactGatherListWrong : ChangeSpec := { name := "fnExactGatherList", fn := fun _ => fun
  | [d] => { results := [.lit (.bool false)], args := [d] }
  | _ => none }
def FnExactGatherListWrongFalsely : Prop := fnExactGatherListRow.holds Try.pinned (OpenSpec.ofChange fnExactGatherListWrong)

/-- 'laws.FnExactPlayList': WHATEVER THE INPUT: true; the input reads as it did. -/
def fnExactPlayListSpec : ChangeSpec := { name := "fnExactPlayList", fn := fun _ => fun
  | [d1, d2] => { results := [.lit (.bool true)], args := [d1, d2] }
  | _ => none }
def fnExactPlayListRow : OpenClaim := { program := "ythomhekbikpcfaa", sum := "0caf35b7ca687e1fdd3d5cf5624e40ef5b761cb98391960417ae475941e584bc", func := "loop.example/lib-g01424/laws.FnExactPlayList", spec := "fnExactPlayList", apart := false }
def FnExactPlayListSaid : Prop := fnExactPlayListRow.holds Try.pinned (OpenSpec.ofChange fnExactPlayListSpec)

/-- ITS FALSE NEIGHBOUR: 'it returns false'. Refute it at one input. -/
def fnExactPlayListWrong : ChangeSpec := { name := "fnExactPlayList", fn := fun _ => fun
  | [d1, d2] => { results := [.lit (.bool false)], args := [d1, d2] }
  | _ => none }
def FnExactPlayListWrongFalsely : Prop := fnExactPlayListRow.holds Try.pinned (OpenSpec.ofChange fnExactPlayListWrong)

/-- 'laws.FnExactSpliceList': WHATEVER THE INPUT: true; the input reads as it did. -/
def fnExactSpliceListSpec : ChangeSpec := { name := "fnExactSpliceList", fn := fun _ => fun
  | [d1, d2, d3] => { results := [.lit (.bool true)], args := [d1, d2, d3] }
  | _ => none }
def fnExactSpliceListRow : OpenClaim := { program := "ythomhekbikpcfaa", sum := "0caf35b7ca687e1fdd3d5cf5624e40ef5b761cb98391960417ae475941e584bc", func := "loop.example/lib-g01424/laws.FnExactSpliceList", spec := "fnExactSpliceList", apart := false }
def FnExactSpliceListSaid : Prop := fnExactSpliceListRow.holds Try.pinned (OpenSpec.ofChange fnExactSpliceListSpec)

/-- ITS FALSE NEIGHBOUR: 'it returns false'. Refute it at one input. -/
def fnExactSpliceListWrong : ChangeSpec := { name := "fnExactSpliceList", fn := fun _ => fun
  | [d1, d2, d3] => { results := [.lit (.bool false)], args := [d1, d2, d3] }
  | _ => none }
def FnExactSpliceListWrongFalsely : Prop := fnExactSpliceListRow.holds Try.pinned (OpenSpec.ofChange fnExactSpliceListWrong)

/-- 'laws.FnExactDealRing': WHATEVER THE INPUT: true; the input reads as it did. -/
def fnExactDealRingSpec : ChangeSpec := { name := "fnExactDealRing", fn := fun _ => fun
  | [d1, d2] => { results := [.lit (.bool true)], args := [d1, d2] }
  | _ => none }
def fnExactDealRingRow : OpenClaim := { program := "ythomhekbikpcfaa", sum := "0caf35b7ca687e1fdd3d5cf5624e40ef5b761cb98391960417ae475941e584bc", func := "loop.example/lib-g01424/laws.FnExactDealRing", spec := "fnExactDealRing", unfollowed := true, recurses := true, apart := false }
def FnExactDealRingSaid : Prop := fnExactDealRingRow.holds Try.pinned (OpenSpec.ofChange fnExactDealRingSpec)

/-- ITS FALSE NEIGHBOUR: 'it returns false'. Refute it at one input. -/
def fnExactDealRingWrong : ChangeSpec := { name := "fnExactDealRing", fn := fun _ => fun
  | [d1, d2] => { results := [.lit (.bool false)], args := [d1, d2] }
  | _ => none }
def FnExactDealRingWrongFalsely : Prop := fnExactDealRingRow.holds Try.pinned (OpenSpec.ofChange fnExactDealRingWrong)

/-- 'laws.FnDealHands': WHATEVER THE INPUT: true; the input reads as it did. -/
def fnDealHandsSpec : ChangeSpec := { name := "fnDealHands", fn := fun _ => fun
  | [d1, d2] => { results := [.lit (.bool true)], args := [d1, d2] }
  | _ => none }
def fnDealHandsRow : OpenClaim := { program := "ythomhekbikpcfaa", sum := "0caf35b7ca687e1fdd3d5cf5624e40ef5b761cb98391960417ae475941e584bc", func := "loop.example/lib-g01424/laws.FnDealHands", spec := "fnDealHands", unfollowed := true, recurses := true, apart := false }
def FnDealHandsSaid : Prop := fnDealHandsRow.holds Try.pinned (OpenSpec.ofChange fnDealHandsSpec)

/-- ITS FALSE NEIGHBOUR: 'it returns false'. Refute it at one input. -/
def fnDealHandsWrong : ChangeSpec := { name := "fnDealHands", fn := fun _ => fun
  | [d1, d2] => { results := [.lit (.bool false)], args := [d1, d2] }
  | _ => none }
def FnDealHandsWrongFalsely : Prop := fnDealHandsRow.holds Try.pinned (OpenSpec.ofChange fnDealHandsWrong)

/-- 'laws.FnExactGatherRing': WHATEVER THE INPUT: true; the input reads as it did. -/
def fnExactGatherRingSpec : ChangeSpec := { name := "fnExactGatherRing", fn := fun _ => fun
  | [d] => { results := [.lit (.bool true)], args := [d] }
  | _ => none }
def fnExactGatherRingRow : OpenClaim := { program := "ythomhekbikpcfaa", sum := "0caf35b7ca687e1fdd3d5cf5624e40ef5b761cb98391960417ae475941e584bc", func := "loop.example/lib-g01424/laws.FnExactGatherRing", spec := "fnExactGatherRing", apart := false }
def FnExactGatherRingSaid : Prop := fnExactGatherRingRow.holds Try.pinned (OpenSpec.ofChange fnExactGatherRingSpec)

/-- ITS FALSE NEIGHBOUR: 'it returns false'. Refute it at one input. -/
def fnExactGatherRingWrong : ChangeSpec := { name := "fnExactGatherRing", fn := fun _ => fun
  | [d] => { results := [.lit (.bool false)], args := [d] }
  | _ => none }
def FnExactGatherRingWrongFalsely : Prop := fnExactGatherRingRow.holds Try.pinned (OpenSpec.ofChange fnExactGatherRingWrong)

/-- 'laws.FnDealBoth': WHATEVER THE INPUT: true; the input reads as it did. -/
def fnDealBothSpec : ChangeSpec := { name := "fnDealBoth", fn := fun _ => fun
  | [d1, d2] => { results := [.lit (.bool true)], args := [d1, d2] }
  | _ => none }
def fnDealBothRow : OpenClaim := { program := "ythomhekbikpcfaa", sum := "0caf35b7ca687e1fdd3d5cf5624e40ef5b761cb98391960417ae475941e584bc", func := "loop.example/lib-g01424/laws.FnDealBoth", spec := "fnDealBoth", unfollowed := true, recurses := true, apart := false }
def FnDealBothSaid : Prop := fnDealBothRow.holds Try.pinned (OpenSpec.ofChange fnDealBothSpec)

/-- ITS FALSE NEIGHBOUR: 'it returns false'. Refute it at one input. -/
def fnDealBothWrong : ChangeSpec := { name := "fnDealBoth", fn := fun _ => fun
  | [d1, d2] => { results := [.lit (.bool false)], args := [d1, d2] }
  | _ => none }
def FnDealBothWrongFalsely : Prop := fnDealBothRow.holds Try.pinned (OpenSpec.ofChange fnDealBothWrong)

/- THE SECOND FORM. 'bulk': how many values and letters a reading holds, each counted each time it is reached (what is shared counts as often as it is met; a slice's spare places count too). A statement '..UptoSaid' is the law's where the arguments, and the package variables that the reading takes, are together of bulk at most 1048576: NARROWER than '..Said'. Prove '..Said' where nothing that the law and all that it calls make is longer than what came in: it says more and counts as full. Else prove '..UptoSaid'. A law counts once. -/
mutual
def uptoBulk {H : Type} : DataW H → Nat
  | .lit (.string bytes) => bytes.length + 1
  | .lit _ => 1
  | .nil => 1
  | .ptr d => uptoBulk d + 1
  | .slice elems spare => uptoBulkAll elems + uptoBulkAll spare + 1
  | .agg parts => uptoBulkAll parts + 1
  | .iface _ d => uptoBulk d + 1
  | .map entries => uptoBulkEntries entries + 1
  | .held _ => 1
def uptoBulkAll {H : Type} : List (DataW H) → Nat
  | [] => 0
  | d :: r => uptoBulk d + uptoBulkAll r
def uptoBulkEntries {H : Type} : List (Lit × DataW H) → Nat
  | [] => 0
  | x :: r => uptoBulkEntry x + uptoBulkEntries r
def uptoBulkEntry {H : Type} : Lit × DataW H → Nat
  | (.string bytes, d) => bytes.length + uptoBulk d + 1
  | (_, d) => uptoBulk d + 1
 end
def uptoSmall : (H : Type) → List (DataW H) → Bool := fun _ ds => decide (uptoBulkAll ds ≤ 1048576)
def OpenSpec.upto (s : _root_.Go.ChangeSpec) : _root_.Go.OpenSpec := { _root_.Go.OpenSpec.ofChange s with cond := some uptoSmall }

/-- 'laws.FnExactJoinList', WHERE WHAT IT READS IS OF BULK AT MOST 1048576: true; the input reads as it did. -/
def fnExactJoinListUptoRow : OpenClaim := { program := "ythomhekbikpcfaa", sum := "0caf35b7ca687e1fdd3d5cf5624e40ef5b761cb98391960417ae475941e584bc", func := "loop.example/lib-g01424/laws.FnExactJoinList", spec := "fnExactJoinList", apart := false, narrowed := true }
def FnExactJoinListUptoSaid : Prop := fnExactJoinListUptoRow.holds Try.pinned (OpenSpec.upto fnExactJoinListSpec)

/-- 'laws.FnExactSortList', WHERE WHAT IT READS IS OF BULK AT MOST 1048576: true; the input reads as it did. -/
def fnExactSortListUptoRow : OpenClaim := { program := "ythomhekbikpcfaa", sum := "0caf35b7ca687e1fdd3d5cf5624e40ef5b761cb98391960417ae475941e584bc", func := "loop.example/lib-g01424/laws.FnExactSortList", spec := "fnExactSortList", apart := false, narrowed := true }
def FnExactSortListUptoSaid : Prop := fnExactSortListUptoRow.holds Try.pinned (OpenSpec.upto fnExactSortListSpec)

/-- 'laws.FnExactTurnList', WHERE WHAT IT READS IS OF BULK AT MOST 1048576: true; the input reads as it did. -/
def fnExactTurnListUptoRow : OpenClaim := { program := "ythomhekbikpcfaa", sum := "0caf35b7ca687e1fdd3d5cf5624e40ef5b761cb98391960417ae475941e584bc", func := "loop.example/lib-g01424/laws.FnExactTurnList", spec := "fnExactTurnList", apart := false, narrowed := true }
def FnExactTurnListUptoSaid : Prop := fnExactTurnListUptoRow.holds Try.pinned (OpenSpec.upto fnExactTurnListSpec)

/-- 'laws.FnExactCircleList', WHERE WHAT IT READS IS OF BULK AT MOST 1048576: true; the input reads as it did. -/
def fnExactCircleListUptoRow : OpenClaim := { program := "ythomhekbikpcfaa", sum := "0caf35b7ca687e1fdd3d5cf5624e40ef5b761cb98391960417ae475941e584bc", func := "loop.example/lib-g01424/laws.FnExactCircleList", spec := "fnExactCircleList", apart := false, narrowed := true }
def FnExactCircleListUptoSaid : Prop := fnExactCircleListUptoRow.holds Try.pinned (OpenSpec.upto fnExactCircleListSpec)

/-- 'laws.FnExactDealList', WHERE WHAT IT READS IS OF BULK AT MOST 1048576: true; the input reads as it did. -/
def fnExactDealListUptoRow : OpenClaim := { program := "ythomhekbikpcfaa", sum := "0caf35b7ca687e1fdd3d5cf5624e40ef5b761cb98391960417ae475941e584bc", func := "loop.example/lib-g01424/laws.FnExactDealList", spec := "fnExactDealList", apart := false, narrowed := true }
def FnExactDealListUptoSaid : Prop := fnExactDealListUptoRow.holds Try.pinned (OpenSpec.upto fnExactDealListSpec)

/-- 'laws.FnExactGatherList', WHERE WHAT IT READS IS OF BULK AT MOST 1048576: true; the input reads as it did. -/
def fnExactGatherListUptoRow : OpenClaim := { program := "ythomhekbikpcfaa", sum := "0caf35b7ca687e1fdd3d5cf5624e40ef5b761cb98391960417ae475941e584bc", func := "loop.example/lib-g01424/laws.FnExactGatherList", spec := "fnExactGatherList", apart := false, narrowed := true }
def FnExactGatherListUptoSaid : Prop := fnExactGatherListUptoRow.holds Try.pinned (OpenSpec.upto fnExactGatherListSpec)

/-- 'laws.FnExactPlayList', WHERE WHAT IT READS IS OF BULK AT MOST 1048576: true; the input reads as it did. -/
def fnExactPlayListUptoRow : OpenClaim := { program := "ythomhekbikpcfaa", sum := "0caf35b7ca687e1fdd3d5cf5624e40ef5b761cb98391960417ae475941e584bc", func := "loop.example/lib-g01424/laws.FnExactPlayList", spec := "fnExactPlayList", apart := false, narrowed := true }
def FnExactPlayListUptoSaid : Prop := fnExactPlayListUptoRow.holds Try.pinned (OpenSpec.upto fnExactPlayListSpec)

/-- 'laws.FnExactSpliceList', WHERE WHAT IT READS IS OF BULK AT MOST 1048576: true; the input reads as it did. -/
def fnExactSpliceListUptoRow : OpenClaim := { program := "ythomhekbikpcfaa", sum := "0caf35b7ca687e1fdd3d5cf5624e40ef5b761cb98391960417ae475941e584bc", func := "loop.example/lib-g01424/laws.FnExactSpliceList", spec := "fnExactSpliceList", apart := false, narrowed := true }
def FnExactSpliceListUptoSaid : Prop := fnExactSpliceListUptoRow.holds Try.pinned (OpenSpec.upto fnExactSpliceListSpec)

/-- 'laws.FnExactDealRing', WHERE WHAT IT READS IS OF BULK AT MOST 1048576: true; the input reads as it did. -/
def fnExactDealRingUptoRow : OpenClaim := { program := "ythomhekbikpcfaa", sum := "0caf35b7ca687e1fdd3d5cf5624e40ef5b761cb98391960417ae475941e584bc", func := "loop.example/lib-g01424/laws.FnExactDealRing", spec := "fnExactDealRing", unfollowed := true, recurses := true, apart := false, narrowed := true }
def FnExactDealRingUptoSaid : Prop := fnExactDealRingUptoRow.holds Try.pinned (OpenSpec.upto fnExactDealRingSpec)

/-- 'laws.FnDealHands', WHERE WHAT IT READS IS OF BULK AT MOST 1048576: true; the input reads as it did. -/
def fnDealHandsUptoRow : OpenClaim := { program := "ythomhekbikpcfaa", sum := "0caf35b7ca687e1fdd3d5cf5624e40ef5b761cb98391960417ae475941e584bc", func := "loop.example/lib-g01424/laws.FnDealHands", spec := "fnDealHands", unfollowed := true, recurses := true, apart := false, narrowed := true }
def FnDealHandsUptoSaid : Prop := fnDealHandsUptoRow.holds Try.pinned (OpenSpec.upto fnDealHandsSpec)

/-- 'laws.FnExactGatherRing', WHERE WHAT IT READS IS OF BULK AT MOST 1048576: true; the input reads as it did. -/
def fnExactGatherRingUptoRow : OpenClaim := { program := "ythomhekbikpcfaa", sum := "0caf35b7ca687e1fdd3d5cf5624e40ef5b761cb98391960417ae475941e584bc", func := "loop.example/lib-g01424/laws.FnExactGatherRing", spec := "fnExactGatherRing", apart := false, narrowed := true }
def FnExactGatherRingUptoSaid : Prop := fnExactGatherRingUptoRow.holds Try.pinned (OpenSpec.upto fnExactGatherRingSpec)

/-- 'laws.FnDealBoth', WHERE WHAT IT READS IS OF BULK AT MOST 1048576: true; the input reads as it did. -/
def fnDealBothUptoRow : OpenClaim := { program := "ythomhekbikpcfaa", sum := "0caf35b7ca687e1fdd3d5cf5624e40ef5b761cb98391960417ae475941e584bc", func := "loop.example/lib-g01424/laws.FnDealBoth", spec := "fnDealBoth", unfollowed := true, recurses := true, apart := false, narrowed := true }
def FnDealBothUptoSaid : Prop := fnDealBothUptoRow.holds Try.pinned (OpenSpec.upto fnDealBothSpec)

end Rows
end Go.Proofs.Ythomhekbikpcfaa
