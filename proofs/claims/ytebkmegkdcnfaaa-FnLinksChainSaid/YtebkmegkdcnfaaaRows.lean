/-
  No cell of these rows narrows 'for every input' (looked for: loops, veiled, ifaces, maps, wideKeys, modest, calm, conditions, laid).
  DERIVED. THE GIVEN ROWS OF THIS SEAT. 9 by the template 'for every input the law returns true; each argument reads behind the call as it read before'; 0 by the template 'total and deterministic' (their statements: YtebkmegkdcnfaaaTotals.lean).
  GIVEN WITH THE SEED: the statements are not yours to turn. If you find one false, say at which input.
  Laid BY PROGRAM, IN A SANDBOX (cutbox-rows.mjs): the forced cells as the released guide's own fill.sh prints them over the translation c3d0d60c66ba82f4… (all of the seat's roots in one cut). By AI agents, Wed Nov 11 2026. No macro, syntax, notation, axiom, sorry.
-/
import Derived.Test.YtebkmegkdcnfaaaChecked
import GoSem.Claim
import GoSem.ClaimJoined
import GoSem.ClaimMapViews
import Derived.JoinedTies
import Derived.KernelRfl
namespace Go.Proofs.Ytebkmegkdcnfaaa
/- THE CELL 'sum', in the pinned program and in every row, IS THE sha256 OF THE DUMP (.gsa) THAT YtebkmegkdcnfaaaProg.lean LOADS. Nothing in Lean hashes anything: it is a label: what it is worth is what the hold of that sum in a sandbox is worth. -/
noncomputable def Try.pinned : Pinned := { name := "ytebkmegkdcnfaaa", sum := "c3d0d60c66ba82f4df652ad2be1d945bdf8db9359dc5761ff2854cb2ea90ae09", checked := Try.checked }
namespace Rows
def none {H : Type} : Left H := { results := [], args := [] }

/-- 'laws.FnPlayUndone': WHATEVER THE INPUT: true; the input reads as it did. -/
def fnPlayUndoneSpec : ChangeSpec := { name := "fnPlayUndone", fn := fun _ => fun
  | [d1, d2] => { results := [.lit (.bool true)], args := [d1, d2] }
  | _ => none }
def fnPlayUndoneRow : OpenClaim := { program := "ytebkmegkdcnfaaa", sum := "c3d0d60c66ba82f4df652ad2be1d945bdf8db9359dc5761ff2854cb2ea90ae09", func := "loop.example/lib-g01424/laws.FnPlayUndone", spec := "fnPlayUndone", unfollowed := true, recurses := true, apart := false }
def FnPlayUndoneSaid : Prop := fnPlayUndoneRow.holds Try.pinned (OpenSpec.ofChange fnPlayUndoneSpec)

/-- ITS FALSE NEIGHBOUR: 'it returns false'. Refute it at one input. -/
def fnPlayUndoneWrong : ChangeSpec := { name := "fnPlayUndone", fn := fun _ => fun
  | [d1, d2] => { results := [.lit (.bool false)], args := [d1, d2] }
  | _ => none }
def FnPlayUndoneWrongFalsely : Prop := fnPlayUndoneRow.holds Try.pinned (OpenSpec.ofChange fnPlayUndoneWrong)

/-- 'laws.FnExactCycles': WHATEVER THE INPUT: true; the input reads as it did. -/
def fnExactCyclesSpec : ChangeSpec := { name := "fnExactCycles", fn := fun _ => fun
  | [d1, d2] => { results := [.lit (.bool true)], args := [d1, d2] }
  | _ => none }
def fnExactCyclesRow : OpenClaim := { program := "ytebkmegkdcnfaaa", sum := "c3d0d60c66ba82f4df652ad2be1d945bdf8db9359dc5761ff2854cb2ea90ae09", func := "loop.example/lib-g01424/laws.FnExactCycles", spec := "fnExactCycles", unfollowed := true, recurses := true, apart := false }
def FnExactCyclesSaid : Prop := fnExactCyclesRow.holds Try.pinned (OpenSpec.ofChange fnExactCyclesSpec)

/-- ITS FALSE NEIGHBOUR: 'it returns false'. Refute it at one input. -/
def fnExactCyclesWrong : ChangeSpec := { name := "fnExactCycles", fn := fun _ => fun
  | [d1, d2] => { results := [.lit (.bool false)], args := [d1, d2] }
  | _ => none }
def FnExactCyclesWrongFalsely : Prop := fnExactCyclesRow.holds Try.pinned (OpenSpec.ofChange fnExactCyclesWrong)

/-- 'laws.FnCyclesNext': WHATEVER THE INPUT: true; the input reads as it did. -/
def fnCyclesNextSpec : ChangeSpec := { name := "fnCyclesNext", fn := fun _ => fun
  | [d1, d2] => { results := [.lit (.bool true)], args := [d1, d2] }
  | _ => none }
def fnCyclesNextRow : OpenClaim := { program := "ytebkmegkdcnfaaa", sum := "c3d0d60c66ba82f4df652ad2be1d945bdf8db9359dc5761ff2854cb2ea90ae09", func := "loop.example/lib-g01424/laws.FnCyclesNext", spec := "fnCyclesNext", unfollowed := true, recurses := true, apart := false }
def FnCyclesNextSaid : Prop := fnCyclesNextRow.holds Try.pinned (OpenSpec.ofChange fnCyclesNextSpec)

/-- ITS FALSE NEIGHBOUR: 'it returns false'. Refute it at one input. -/
def fnCyclesNextWrong : ChangeSpec := { name := "fnCyclesNext", fn := fun _ => fun
  | [d1, d2] => { results := [.lit (.bool false)], args := [d1, d2] }
  | _ => none }
def FnCyclesNextWrongFalsely : Prop := fnCyclesNextRow.holds Try.pinned (OpenSpec.ofChange fnCyclesNextWrong)

/-- 'laws.FnLinksOne': WHATEVER THE INPUT: true; the input reads as it did. -/
def fnLinksOneSpec : ChangeSpec := { name := "fnLinksOne", fn := fun _ => fun
  | [d1, d2, d3] => { results := [.lit (.bool true)], args := [d1, d2, d3] }
  | _ => none }
def fnLinksOneRow : OpenClaim := { program := "ytebkmegkdcnfaaa", sum := "c3d0d60c66ba82f4df652ad2be1d945bdf8db9359dc5761ff2854cb2ea90ae09", func := "loop.example/lib-g01424/laws.FnLinksOne", spec := "fnLinksOne", unfollowed := true, recurses := true, apart := false }
def FnLinksOneSaid : Prop := fnLinksOneRow.holds Try.pinned (OpenSpec.ofChange fnLinksOneSpec)

/-- ITS FALSE NEIGHBOUR: 'it returns false'. Refute it at one input. -/
def fnLinksOneWrong : ChangeSpec := { name := "fnLinksOne", fn := fun _ => fun
  | [d1, d2, d3] => { results := [.lit (.bool false)], args := [d1, d2, d3] }
  | _ => none }
def FnLinksOneWrongFalsely : Prop := fnLinksOneRow.holds Try.pinned (OpenSpec.ofChange fnLinksOneWrong)

/-- 'laws.FnLinksParity': WHATEVER THE INPUT: true; the input reads as it did. -/
def fnLinksParitySpec : ChangeSpec := { name := "fnLinksParity", fn := fun _ => fun
  | [d1, d2] => { results := [.lit (.bool true)], args := [d1, d2] }
  | _ => none }
def fnLinksParityRow : OpenClaim := { program := "ytebkmegkdcnfaaa", sum := "c3d0d60c66ba82f4df652ad2be1d945bdf8db9359dc5761ff2854cb2ea90ae09", func := "loop.example/lib-g01424/laws.FnLinksParity", spec := "fnLinksParity", unfollowed := true, recurses := true, apart := false }
def FnLinksParitySaid : Prop := fnLinksParityRow.holds Try.pinned (OpenSpec.ofChange fnLinksParitySpec)

/-- ITS FALSE NEIGHBOUR: 'it returns false'. Refute it at one input. -/
def fnLinksParityWrong : ChangeSpec := { name := "fnLinksParity", fn := fun _ => fun
  | [d1, d2] => { results := [.lit (.bool false)], args := [d1, d2] }
  | _ => none }
def FnLinksParityWrongFalsely : Prop := fnLinksParityRow.holds Try.pinned (OpenSpec.ofChange fnLinksParityWrong)

/-- 'laws.FnExactSpliceRing': WHATEVER THE INPUT: true; the input reads as it did. -/
def fnExactSpliceRingSpec : ChangeSpec := { name := "fnExactSpliceRing", fn := fun _ => fun
  | [d1, d2, d3] => { results := [.lit (.bool true)], args := [d1, d2, d3] }
  | _ => none }
def fnExactSpliceRingRow : OpenClaim := { program := "ytebkmegkdcnfaaa", sum := "c3d0d60c66ba82f4df652ad2be1d945bdf8db9359dc5761ff2854cb2ea90ae09", func := "loop.example/lib-g01424/laws.FnExactSpliceRing", spec := "fnExactSpliceRing", unfollowed := true, recurses := true, apart := false }
def FnExactSpliceRingSaid : Prop := fnExactSpliceRingRow.holds Try.pinned (OpenSpec.ofChange fnExactSpliceRingSpec)

/-- ITS FALSE NEIGHBOUR: 'it returns false'. Refute it at one input. -/
def fnExactSpliceRingWrong : ChangeSpec := { name := "fnExactSpliceRing", fn := fun _ => fun
  | [d1, d2, d3] => { results := [.lit (.bool false)], args := [d1, d2, d3] }
  | _ => none }
def FnExactSpliceRingWrongFalsely : Prop := fnExactSpliceRingRow.holds Try.pinned (OpenSpec.ofChange fnExactSpliceRingWrong)

/-- 'laws.FnExactSpliceList': WHATEVER THE INPUT: true; the input reads as it did. -/
def fnExactSpliceListSpec : ChangeSpec := { name := "fnExactSpliceList", fn := fun _ => fun
  | [d1, d2, d3] => { results := [.lit (.bool true)], args := [d1, d2, d3] }
  | _ => none }
def fnExactSpliceListRow : OpenClaim := { program := "ytebkmegkdcnfaaa", sum := "c3d0d60c66ba82f4df652ad2be1d945bdf8db9359dc5761ff2854cb2ea90ae09", func := "loop.example/lib-g01424/laws.FnExactSpliceList", spec := "fnExactSpliceList", apart := false }
def FnExactSpliceListSaid : Prop := fnExactSpliceListRow.holds Try.pinned (OpenSpec.ofChange fnExactSpliceListSpec)

/-- ITS FALSE NEIGHBOUR: 'it returns false'. Refute it at one input. -/
def fnExactSpliceListWrong : ChangeSpec := { name := "fnExactSpliceList", fn := fun _ => fun
  | [d1, d2, d3] => { results := [.lit (.bool false)], args := [d1, d2, d3] }
  | _ => none }
def FnExactSpliceListWrongFalsely : Prop := fnExactSpliceListRow.holds Try.pinned (OpenSpec.ofChange fnExactSpliceListWrong)

/-- 'laws.FnLinksChain': WHATEVER THE INPUT: true; the input reads as it did. -/
def fnLinksChainSpec : ChangeSpec := { name := "fnLinksChain", fn := fun _ => fun
  | [d1, d2] => { results := [.lit (.bool true)], args := [d1, d2] }
  | _ => none }
def fnLinksChainRow : OpenClaim := { program := "ytebkmegkdcnfaaa", sum := "c3d0d60c66ba82f4df652ad2be1d945bdf8db9359dc5761ff2854cb2ea90ae09", func := "loop.example/lib-g01424/laws.FnLinksChain", spec := "fnLinksChain", unfollowed := true, recurses := true, apart := false }
def FnLinksChainSaid : Prop := fnLinksChainRow.holds Try.pinned (OpenSpec.ofChange fnLinksChainSpec)

/-- ITS FALSE NEIGHBOUR: 'it returns false'. Refute it at one input. -/
def fnLinksChainWrong : ChangeSpec := { name := "fnLinksChain", fn := fun _ => fun
  | [d1, d2] => { results := [.lit (.bool false)], args := [d1, d2] }
  | _ => none }
def FnLinksChainWrongFalsely : Prop := fnLinksChainRow.holds Try.pinned (OpenSpec.ofChange fnLinksChainWrong)

/-- 'laws.FnPlayRelabel': WHATEVER THE INPUT: true; the input reads as it did. -/
def fnPlayRelabelSpec : ChangeSpec := { name := "fnPlayRelabel", fn := fun _ => fun
  | [d1, d2, d3] => { results := [.lit (.bool true)], args := [d1, d2, d3] }
  | _ => none }
def fnPlayRelabelRow : OpenClaim := { program := "ytebkmegkdcnfaaa", sum := "c3d0d60c66ba82f4df652ad2be1d945bdf8db9359dc5761ff2854cb2ea90ae09", func := "loop.example/lib-g01424/laws.FnPlayRelabel", spec := "fnPlayRelabel", unfollowed := true, recurses := true, apart := false }
def FnPlayRelabelSaid : Prop := fnPlayRelabelRow.holds Try.pinned (OpenSpec.ofChange fnPlayRelabelSpec)

/-- ITS FALSE NEIGHBOUR: 'it returns false'. Refute it at one input. -/
def fnPlayRelabelWrong : ChangeSpec := { name := "fnPlayRelabel", fn := fun _ => fun
  | [d1, d2, d3] => { results := [.lit (.bool false)], args := [d1, d2, d3] }
  | _ => none }
def FnPlayRelabelWrongFalsely : Prop := fnPlayRelabelRow.holds Try.pinned (OpenSpec.ofChange fnPlayRelabelWrong)

/- THE SECOND FORM. 'bulk': how many values and letters a reading holds, each counted each time it is reached (what is shared counts as often as it is met; a slice's spare places count too). A statement '..UptoSaid' is the law's where the arguments, and the package variables that the reading takes, are together of bulk at most 1048576: NARROWER than '..Said'. Prove '..Said' where nothing that the law and all that it calls make is longer than what came in: it says more and counts as full. Else prove '..UptoSaid'. A law counts once. -/
mutual
def uptoBulk {H : Type} : DataW H → Nat
  | .lit (.string bytes) => bytes.length + 1
  | .lit _ => 1
  | .nil => 1
  | .ptr d => uptoBulk d + 1
  | .slice elems spare => uptoBulkAll elems + uptoBulkAll spare + 1
  | .agg parts => uptoBulkAll parts + 1
  | .iface _ d => uptoBulk d + 1
  | .map entries => uptoBulkEntries entries + 1
  | .held _ => 1
def uptoBulkAll {H : Type} : List (DataW H) → Nat
  | [] => 0
  | d :: r => uptoBulk d + uptoBulkAll r
def uptoBulkEntries {H : Type} : List (Lit × DataW H) → Nat
  | [] => 0
  | x :: r => uptoBulkEntry x + uptoBulkEntries r
def uptoBulkEntry {H : Type} : Lit × DataW H → Nat
  | (.string bytes, d) => bytes.length + uptoBulk d + 1
  | (_, d) => uptoBulk d + 1
 end
def uptoSmall : (H : Type) → List (DataW H) → Bool := fun _ ds => decide (uptoBulkAll ds ≤ 1048576)
def OpenSpec.upto (s : _root_.Go.ChangeSpec) : _root_.Go.OpenSpec := { _root_.Go.OpenSpec.ofChange s with cond := some uptoSmall }

/-- 'laws.FnPlayUndone', WHERE WHAT IT READS IS OF BULK AT MOST 1048576: true; the input reads as it did. -/
def fnPlayUndoneUptoRow : OpenClaim := { program := "ytebkmegkdcnfaaa", sum := "c3d0d60c66ba82f4df652ad2be1d945bdf8db9359dc5761ff2854cb2ea90ae09", func := "loop.example/lib-g01424/laws.FnPlayUndone", spec := "fnPlayUndone", unfollowed := true, recurses := true, apart := false, narrowed := true }
def FnPlayUndoneUptoSaid : Prop := fnPlayUndoneUptoRow.holds Try.pinned (OpenSpec.upto fnPlayUndoneSpec)

/-- 'laws.FnExactCycles', WHERE WHAT IT READS IS OF BULK AT MOST 1048576: true; the input reads as it did. -/
def fnExactCyclesUptoRow : OpenClaim := { program := "ytebkmegkdcnfaaa", sum := "c3d0d60c66ba82f4df652ad2be1d945bdf8db9359dc5761ff2854cb2ea90ae09", func := "loop.example/lib-g01424/laws.FnExactCycles", spec := "fnExactCycles", unfollowed := true, recurses := true, apart := false, narrowed := true }
def FnExactCyclesUptoSaid : Prop := fnExactCyclesUptoRow.holds Try.pinned (OpenSpec.upto fnExactCyclesSpec)

/-- 'laws.FnCyclesNext', WHERE WHAT IT READS IS OF BULK AT MOST 1048576: true; the input reads as it did. -/
def fnCyclesNextUptoRow : OpenClaim := { program := "ytebkmegkdcnfaaa", sum := "c3d0d60c66ba82f4df652ad2be1d945bdf8db9359dc5761ff2854cb2ea90ae09", func := "loop.example/lib-g01424/laws.FnCyclesNext", spec := "fnCyclesNext", unfollowed := true, recurses := true, apart := false, narrowed := true }
def FnCyclesNextUptoSaid : Prop := fnCyclesNextUptoRow.holds Try.pinned (OpenSpec.upto fnCyclesNextSpec)

/-- 'laws.FnLinksOne', WHERE WHAT IT READS IS OF BULK AT MOST 1048576: true; the input reads as it did. -/
def fnLinksOneUptoRow : OpenClaim := { program := "ytebkmegkdcnfaaa", sum := "c3d0d60c66ba82f4df652ad2be1d945bdf8db9359dc5761ff2854cb2ea90ae09", func := "loop.example/lib-g01424/laws.FnLinksOne", spec := "fnLinksOne", unfollowed := true, recurses := true, apart := false, narrowed := true }
def FnLinksOneUptoSaid : Prop := fnLinksOneUptoRow.holds Try.pinned (OpenSpec.upto fnLinksOneSpec)

/-- 'laws.FnLinksParity', WHERE WHAT IT READS IS OF BULK AT MOST 1048576: true; the input reads as it did. -/
def fnLinksParityUptoRow : OpenClaim := { program := "ytebkmegkdcnfaaa", sum := "c3d0d60c66ba82f4df652ad2be1d945bdf8db9359dc5761ff2854cb2ea90ae09", func := "loop.example/lib-g01424/laws.FnLinksParity", spec := "fnLinksParity", unfollowed := true, recurses := true, apart := false, narrowed := true }
def FnLinksParityUptoSaid : Prop := fnLinksParityUptoRow.holds Try.pinned (OpenSpec.upto fnLinksParitySpec)

/-- 'laws.FnExactSpliceRing', WHERE WHAT IT READS IS OF BULK AT MOST 1048576: true; the input reads as it did. -/
def fnExactSpliceRingUptoRow : OpenClaim := { program := "ytebkmegkdcnfaaa", sum := "c3d0d60c66ba82f4df652ad2be1d945bdf8db9359dc5761ff2854cb2ea90ae09", func := "loop.example/lib-g01424/laws.FnExactSpliceRing", spec := "fnExactSpliceRing", unfollowed := true, recurses := true, apart := false, narrowed := true }
def FnExactSpliceRingUptoSaid : Prop := fnExactSpliceRingUptoRow.holds Try.pinned (OpenSpec.upto fnExactSpliceRingSpec)

/-- 'laws.FnExactSpliceList', WHERE WHAT IT READS IS OF BULK AT MOST 1048576: true; the input reads as it did. -/
def fnExactSpliceListUptoRow : OpenClaim := { program := "ytebkmegkdcnfaaa", sum := "c3d0d60c66ba82f4df652ad2be1d945bdf8db9359dc5761ff2854cb2ea90ae09", func := "loop.example/lib-g01424/laws.FnExactSpliceList", spec := "fnExactSpliceList", apart := false, narrowed := true }
def FnExactSpliceListUptoSaid : Prop := fnExactSpliceListUptoRow.holds Try.pinned (OpenSpec.upto fnExactSpliceListSpec)

/-- 'laws.FnLinksChain', WHERE WHAT IT READS IS OF BULK AT MOST 1048576: true; the input reads as it did. -/
def fnLinksChainUptoRow : OpenClaim := { program := "ytebkmegkdcnfaaa", sum := "c3d0d60c66ba82f4df652ad2be1d945bdf8db9359dc5761ff2854cb2ea90ae09", func := "loop.example/lib-g01424/laws.FnLinksChain", spec := "fnLinksChain", unfollowed := true, recurses := true, apart := false, narrowed := true }
def FnLinksChainUptoSaid : Prop := fnLinksChainUptoRow.holds Try.pinned (OpenSpec.upto fnLinksChainSpec)

/-- 'laws.FnPlayRelabel', WHERE WHAT IT READS IS OF BULK AT MOST 1048576: true; the input reads as it did. -/
def fnPlayRelabelUptoRow : OpenClaim := { program := "ytebkmegkdcnfaaa", sum := "c3d0d60c66ba82f4df652ad2be1d945bdf8db9359dc5761ff2854cb2ea90ae09", func := "loop.example/lib-g01424/laws.FnPlayRelabel", spec := "fnPlayRelabel", unfollowed := true, recurses := true, apart := false, narrowed := true }
def FnPlayRelabelUptoSaid : Prop := fnPlayRelabelUptoRow.holds Try.pinned (OpenSpec.upto fnPlayRelabelSpec)

end Rows
end Go.Proofs.Ytebkmegkdcnfaaa
