/-
  No cell of these rows narrows 'for every input' (looked for: loops, veiled, ifaces, maps, wideKeys, modest, calm, conditions, laid).
  DERIVED. THE GIVEN ROWS OF THIS SEAT. 12 by the template 'for every input the law returns true; each argument reads behind the call as it read before'; 0 by the template 'total and deterministic' (their statements: YtoodmppijlfaoaaTotals.lean).
  GIVEN WITH THE SEED: the statements are not yours to turn. If you find one false, say at which input.
  Laid BY PROGRAM, IN A SANDBOX (cutbox-rows.mjs): the forced cells as the released guide's own fill.sh prints them over the translation 0737b885449a9439… (all of the seat's roots in one cut). By AI agents, Wed Nov 11 2026. No macro, syntax, notation, axiom, sorry.
-/
import Derived.Test.YtoodmppijlfaoaaChecked
import GoSem.Claim
import GoSem.ClaimJoined
import GoSem.ClaimMapViews
import Derived.JoinedTies
import Derived.KernelRfl
namespace Go.Proofs.Ytoodmppijlfaoaa
/- THE CELL 'sum', in the pinned program and in every row, IS THE sha256 OF THE DUMP (.gsa) THAT YtoodmppijlfaoaaProg.lean LOADS. Nothing in Lean hashes anything: it is a label: what it is worth is what the hold of that sum in a sandbox is worth. -/
noncomputable def Try.pinned : Pinned := { name := "ytoodmppijlfaoaa", sum := "0737b885449a94394c712a2150992d440f140d6f4935d9279d17d9647c45ddf4", checked := Try.checked }
namespace Rows
def none {H : Type} : Left H := { results := [], args := [] }

/-- 'laws.FnPlayUndone': WHATEVER THE INPUT: true; the input reads as it did. -/
def fnPlayUndoneSpec : ChangeSpec := { name := "fnPlayUndone", fn := fun _ => fun
  | [d1, d2] => { results := [.lit (.bool true)], args := [d1, d2] }
  | _ => none }
def fnPlayUndoneRow : OpenClaim := { program := "ytoodmppijlfaoaa", sum := "0737b885449a94394c712a2150992d440f140d6f4935d9279d17d9647c45ddf4", func := "loop.example/lib-g01424/laws.FnPlayUndone", spec := "fnPlayUndone", unfollowed := true, recurses := true, apart := false }
def FnPlayUndoneSaid : Prop := fnPlayUndoneRow.holds Try.pinned (OpenSpec.ofChange fnPlayUndoneSpec)

/-- ITS FALSE NEIGHBOUR: 'it returns false'. Refute it at one input. -/
def fnPlayUndoneWrong : ChangeSpec := { name := "fnPlayUndone", fn := fun _ => fun
  | [d1, d2] => { results := [.lit (.bool false)], args := [d1, d2] }
  | _ => none }
def FnPlayUndoneWrongFalsely : Prop := fnPlayUndoneRow.holds Try.pinned (OpenSpec.ofChange fnPlayUndoneWrong)

/-- 'laws.FnPlayTurns': WHATEVER THE INPUT: true; the input reads as it did. -/
def fnPlayTurnsSpec : ChangeSpec := { name := "fnPlayTurns", fn := fun _ => fun
  | [d1, d2] => { results := [.lit (.bool true)], args := [d1, d2] }
  | _ => none }
def fnPlayTurnsRow : OpenClaim := { program := "ytoodmppijlfaoaa", sum := "0737b885449a94394c712a2150992d440f140d6f4935d9279d17d9647c45ddf4", func := "loop.example/lib-g01424/laws.FnPlayTurns", spec := "fnPlayTurns", unfollowed := true, recurses := true, apart := false }
def FnPlayTurnsSaid : Prop := fnPlayTurnsRow.holds Try.pinned (OpenSpec.ofChange fnPlayTurnsSpec)

/-- ITS FALSE NEIGHBOUR: 'it returns false'. Refute it at one input. -/
def fnPlayTurnsWrong : ChangeSpec := { name := "fnPlayTurns", fn := fun _ => fun
  | [d1, d2] => { results := [.lit (.bool false)], args := [d1, d2] }
  | _ => none }
def FnPlayTurnsWrongFalsely : Prop := fnPlayTurnsRow.holds Try.pinned (OpenSpec.ofChange fnPlayTurnsWrong)

/-- 'laws.FnPlayBoth': WHATEVER THE INPUT: true; the input reads as it did. -/
def fnPlayBothSpec : ChangeSpec := { name := "fnPlayBoth", fn := fun _ => fun
  | [d1, d2] => { results := [.lit (.bool true)], args := [d1, d2] }
  | _ => none }
def fnPlayBothRow : OpenClaim := { program := "ytoodmppijlfaoaa", sum := "0737b885449a94394c712a2150992d440f140d6f4935d9279d17d9647c45ddf4", func := "loop.example/lib-g01424/laws.FnPlayBoth", spec := "fnPlayBoth", unfollowed := true, recurses := true, apart := false }
def FnPlayBothSaid : Prop := fnPlayBothRow.holds Try.pinned (OpenSpec.ofChange fnPlayBothSpec)

/-- ITS FALSE NEIGHBOUR: 'it returns false'. Refute it at one input. -/
def fnPlayBothWrong : ChangeSpec := { name := "fnPlayBoth", fn := fun _ => fun
  | [d1, d2] => { results := [.lit (.bool false)], args := [d1, d2] }
  | _ => none }
def FnPlayBothWrongFalsely : Prop := fnPlayBothRow.holds Try.pinned (OpenSpec.ofChange fnPlayBothWrong)

/-- 'laws.FnPlayMirror': WHATEVER THE INPUT: true; the input reads as it did. -/
def fnPlayMirrorSpec : ChangeSpec := { name := "fnPlayMirror", fn := fun _ => fun
  | [d1, d2] => { results := [.lit (.bool true)], args := [d1, d2] }
  | _ => none }
def fnPlayMirrorRow : OpenClaim := { program := "ytoodmppijlfaoaa", sum := "0737b885449a94394c712a2150992d440f140d6f4935d9279d17d9647c45ddf4", func := "loop.example/lib-g01424/laws.FnPlayMirror", spec := "fnPlayMirror", unfollowed := true, recurses := true, apart := false }
def FnPlayMirrorSaid : Prop := fnPlayMirrorRow.holds Try.pinned (OpenSpec.ofChange fnPlayMirrorSpec)

/-- ITS FALSE NEIGHBOUR: 'it returns false'. Refute it at one input. -/
def fnPlayMirrorWrong : ChangeSpec := { name := "fnPlayMirror", fn := fun _ => fun
  | [d1, d2] => { results := [.lit (.bool false)], args := [d1, d2] }
  | _ => none }
def FnPlayMirrorWrongFalsely : Prop := fnPlayMirrorRow.holds Try.pinned (OpenSpec.ofChange fnPlayMirrorWrong)

/-- 'laws.FnPlayOnce': WHATEVER THE INPUT: true; the input reads as it did. -/
def fnPlayOnceSpec : ChangeSpec := { name := "fnPlayOnce", fn := fun _ => fun
  | [d1, d2] => { results := [.lit (.bool true)], args := [d1, d2] }
  | _ => none }
def fnPlayOnceRow : OpenClaim := { program := "ytoodmppijlfaoaa", sum := "0737b885449a94394c712a2150992d440f140d6f4935d9279d17d9647c45ddf4", func := "loop.example/lib-g01424/laws.FnPlayOnce", spec := "fnPlayOnce", unfollowed := true, recurses := true, apart := false }
def FnPlayOnceSaid : Prop := fnPlayOnceRow.holds Try.pinned (OpenSpec.ofChange fnPlayOnceSpec)

/-- ITS FALSE NEIGHBOUR: 'it returns false'. Refute it at one input. -/
def fnPlayOnceWrong : ChangeSpec := { name := "fnPlayOnce", fn := fun _ => fun
  | [d1, d2] => { results := [.lit (.bool false)], args := [d1, d2] }
  | _ => none }
def FnPlayOnceWrongFalsely : Prop := fnPlayOnceRow.holds Try.pinned (OpenSpec.ofChange fnPlayOnceWrong)

/-- 'laws.FnPlayRelabel': WHATEVER THE INPUT: true; the input reads as it did. -/
def fnPlayRelabelSpec : ChangeSpec := { name := "fnPlayRelabel", fn := fun _ => fun
  | [d1, d2, d3] => { results := [.lit (.bool true)], args := [d1, d2, d3] }
  | _ => none }
def fnPlayRelabelRow : OpenClaim := { program := "ytoodmppijlfaoaa", sum := "0737b885449a94394c712a2150992d440f140d6f4935d9279d17d9647c45ddf4", func := "loop.example/lib-g01424/laws.FnPlayRelabel", spec := "fnPlayRelabel", unfollowed := true, recurses := true, apart := false }
def FnPlayRelabelSaid : Prop := fnPlayRelabelRow.holds Try.pinned (OpenSpec.ofChange fnPlayRelabelSpec)

/-- ITS FALSE NEIGHBOUR: 'it returns false'. Refute it at one input. -/
def fnPlayRelabelWrong : ChangeSpec := { name := "fnPlayRelabel", fn := fun _ => fun
  | [d1, d2, d3] => { results := [.lit (.bool false)], args := [d1, d2, d3] }
  | _ => none }
def FnPlayRelabelWrongFalsely : Prop := fnPlayRelabelRow.holds Try.pinned (OpenSpec.ofChange fnPlayRelabelWrong)

/-- 'laws.FnLinksChain': WHATEVER THE INPUT: true; the input reads as it did. -/
def fnLinksChainSpec : ChangeSpec := { name := "fnLinksChain", fn := fun _ => fun
  | [d1, d2] => { results := [.lit (.bool true)], args := [d1, d2] }
  | _ => none }
def fnLinksChainRow : OpenClaim := { program := "ytoodmppijlfaoaa", sum := "0737b885449a94394c712a2150992d440f140d6f4935d9279d17d9647c45ddf4", func := "loop.example/lib-g01424/laws.FnLinksChain", spec := "fnLinksChain", unfollowed := true, recurses := true, apart := false }
def FnLinksChainSaid : Prop := fnLinksChainRow.holds Try.pinned (OpenSpec.ofChange fnLinksChainSpec)

/-- ITS FALSE NEIGHBOUR: 'it returns false'. Refute it at one input. -/
def fnLinksChainWrong : ChangeSpec := { name := "fnLinksChain", fn := fun _ => fun
  | [d1, d2] => { results := [.lit (.bool false)], args := [d1, d2] }
  | _ => none }
def FnLinksChainWrongFalsely : Prop := fnLinksChainRow.holds Try.pinned (OpenSpec.ofChange fnLinksChainWrong)

/-- 'laws.FnCircleBoth': WHATEVER THE INPUT: true; the input reads as it did. -/
def fnCircleBothSpec : ChangeSpec := { name := "fnCircleBoth", fn := fun _ => fun
  | [d1, d2] => { results := [.lit (.bool true)], args := [d1, d2] }
  | _ => none }
def fnCircleBothRow : OpenClaim := { program := "ytoodmppijlfaoaa", sum := "0737b885449a94394c712a2150992d440f140d6f4935d9279d17d9647c45ddf4", func := "loop.example/lib-g01424/laws.FnCircleBoth", spec := "fnCircleBoth", apart := false }
def FnCircleBothSaid : Prop := fnCircleBothRow.holds Try.pinned (OpenSpec.ofChange fnCircleBothSpec)

/-- ITS FALSE NEIGHBOUR: 'it returns false'. Refute it at one input. -/
def fnCircleBothWrong : ChangeSpec := { name := "fnCircleBoth", fn := fun _ => fun
  | [d1, d2] => { results := [.lit (.bool false)], args := [d1, d2] }
  | _ => none }
def FnCircleBothWrongFalsely : Prop := fnCircleBothRow.holds Try.pinned (OpenSpec.ofChange fnCircleBothWrong)

/-- 'laws.FnCircleEnds': WHATEVER THE INPUT: true; the input reads as it did. -/
def fnCircleEndsSpec : ChangeSpec := { name := "fnCircleEnds", fn := fun _ => fun
  | [d] => { results := [.lit (.bool true)], args := [d] }
  | _ => none }
def fnCircleEndsRow : OpenClaim := { program := "ytoodmppijlfaoaa", sum := "0737b885449a94394c712a2150992d440f140d6f4935d9279d17d9647c45ddf4", func := "loop.example/lib-g01424/laws.FnCircleEnds", spec := "fnCircleEnds", apart := false }
def FnCircleEndsSaid : Prop := fnCircleEndsRow.holds Try.pinned (OpenSpec.ofChange fnCircleEndsSpec)

/-- ITS FALSE NEIGHBOUR: 'it returns false'. Refute it at one input. -/
def fnCircleEndsWrong : ChangeSpec := { name := "fnCircleEnds", fn := fun _ => fun
  | [d] => { results := [.lit (.bool false)], args := [d] }
  | _ => none }
def FnCircleEndsWrongFalsely : Prop := fnCircleEndsRow.holds Try.pinned (OpenSpec.ofChange fnCircleEndsWrong)

/-- 'laws.FnCircleRecurs': WHATEVER THE INPUT: true; the input reads as it did. -/
def fnCircleRecursSpec : ChangeSpec := { name := "fnCircleRecurs", fn := fun _ => fun
  | [d1, d2] => { results := [.lit (.bool true)], args := [d1, d2] }
  | _ => none }
def fnCircleRecursRow : OpenClaim := { program := "ytoodmppijlfaoaa", sum := "0737b885449a94394c712a2150992d440f140d6f4935d9279d17d9647c45ddf4", func := "loop.example/lib-g01424/laws.FnCircleRecurs", spec := "fnCircleRecurs", apart := false }
def FnCircleRecursSaid : Prop := fnCircleRecursRow.holds Try.pinned (OpenSpec.ofChange fnCircleRecursSpec)

/-- ITS FALSE NEIGHBOUR: 'it returns false'. Refute it at one input. -/
def fnCircleRecursWrong : ChangeSpec := { name := "fnCircleRecurs", fn := fun _ => fun
  | [d1, d2] => { results := [.lit (.bool false)], args := [d1, d2] }
  | _ => none }
def FnCircleRecursWrongFalsely : Prop := fnCircleRecursRow.holds Try.pinned (OpenSpec.ofChange fnCircleRecursWrong)

/-- 'laws.FnTurnBoth': WHATEVER THE INPUT: true; the input reads as it did. -/
def fnTurnBothSpec : ChangeSpec := { name := "fnTurnBoth", fn := fun _ => fun
  | [d1, d2] => { results := [.lit (.bool true)], args := [d1, d2] }
  | _ => none }
def fnTurnBothRow : OpenClaim := { program := "ytoodmppijlfaoaa", sum := "0737b885449a94394c712a2150992d440f140d6f4935d9279d17d9647c45ddf4", func := "loop.example/lib-g01424/laws.FnTurnBoth", spec := "fnTurnBoth", unfollowed := true, recurses := true, apart := false }
def FnTurnBothSaid : Prop := fnTurnBothRow.holds Try.pinned (OpenSpec.ofChange fnTurnBothSpec)

/-- ITS FALSE NEIGHBOUR: 'it returns false'. Refute it at one input. -/
def fnTurnBothWrong : ChangeSpec := { name := "fnTurnBoth", fn := fun _ => fun
  | [d1, d2] => { results := [.lit (.bool false)], args := [d1, d2] }
  | _ => none }
def FnTurnBothWrongFalsely : Prop := fnTurnBothRow.holds Try.pinned (OpenSpec.ofChange fnTurnBothWrong)

/-- 'laws.FnTurnTwice': WHATEVER THE INPUT: true; the input reads as it did. -/
def fnTurnTwiceSpec : ChangeSpec := { name := "fnTurnTwice", fn := fun _ => fun
  | [d1, d2, d3] => { results := [.lit (.bool true)], args := [d1, d2, d3] }
  | _ => none }
def fnTurnTwiceRow : OpenClaim := { program := "ytoodmppijlfaoaa", sum := "0737b885449a94394c712a2150992d440f140d6f4935d9279d17d9647c45ddf4", func := "loop.example/lib-g01424/laws.FnTurnTwice", spec := "fnTurnTwice", unfollowed := true, recurses := true, apart := false }
def FnTurnTwiceSaid : Prop := fnTurnTwiceRow.holds Try.pinned (OpenSpec.ofChange fnTurnTwiceSpec)

/-- ITS FALSE NEIGHBOUR: 'it returns false'. Refute it at one input. -/
def fnTurnTwiceWrong : ChangeSpec := { name := "fnTurnTwice", fn := fun _ => fun
  | [d1, d2, d3] => { results := [.lit (.bool false)], args := [d1, d2, d3] }
  | _ => none }
def FnTurnTwiceWrongFalsely : Prop := fnTurnTwiceRow.holds Try.pinned (OpenSpec.ofChange fnTurnTwiceWrong)

/- THE SECOND FORM. 'bulk': how many values and letters a reading holds, each counted each time it is reached (what is shared counts as often as it is met; a slice's spare places count too). A statement '..UptoSaid' is the law's where the arguments, and the package variables that the reading takes, are together of bulk at most 1048576: NARROWER than '..Said'. Prove '..Said' where nothing that the law and all that it calls make is longer than what came in: it says more and counts as full. Else prove '..UptoSaid'. A law counts once. -/
mutual
def uptoBulk {H : Type} : DataW H → Nat
  | .lit (.string bytes) => bytes.length + 1
  | .lit _ => 1
  | .nil => 1
  | .ptr d => uptoBulk d + 1
  | .slice elems spare => uptoBulkAll elems + uptoBulkAll spare + 1
  | .agg parts => uptoBulkAll parts + 1
  | .iface _ d => uptoBulk d + 1
  | .map entries => uptoBulkEntries entries + 1
  | .held _ => 1
def uptoBulkAll {H : Type} : List (DataW H) → Nat
  | [] => 0
  | d :: r => uptoBulk d + uptoBulkAll r
def uptoBulkEntries {H : Type} : List (Lit × DataW H) → Nat
  | [] => 0
  | x :: r => uptoBulkEntry x + uptoBulkEntries r
def uptoBulkEntry {H : Type} : Lit × DataW H → Nat
  | (.string bytes, d) => bytes.length + uptoBulk d + 1
  | (_, d) => uptoBulk d + 1
 end
def uptoSmall : (H : Type) → List (DataW H) → Bool := fun _ ds => decide (uptoBulkAll ds ≤ 1048576)
def OpenSpec.upto (s : _root_.Go.ChangeSpec) : _root_.Go.OpenSpec := { _root_.Go.OpenSpec.ofChange s with cond := some uptoSmall }

/-- 'laws.FnPlayUndone', WHERE WHAT IT READS IS OF BULK AT MOST 1048576: true; the input reads as it did. -/
def fnPlayUndoneUptoRow : OpenClaim := { program := "ytoodmppijlfaoaa", sum := "0737b885449a94394c712a2150992d440f140d6f4935d9279d17d9647c45ddf4", func := "loop.example/lib-g01424/laws.FnPlayUndone", spec := "fnPlayUndone", unfollowed := true, recurses := true, apart := false, narrowed := true }
def FnPlayUndoneUptoSaid : Prop := fnPlayUndoneUptoRow.holds Try.pinned (OpenSpec.upto fnPlayUndoneSpec)

/-- 'laws.FnPlayTurns', WHERE WHAT IT READS IS OF BULK AT MOST 1048576: true; the input reads as it did. -/
def fnPlayTurnsUptoRow : OpenClaim := { program := "ytoodmppijlfaoaa", sum := "0737b885449a94394c712a2150992d440f140d6f4935d9279d17d9647c45ddf4", func := "loop.example/lib-g01424/laws.FnPlayTurns", spec := "fnPlayTurns", unfollowed := true, recurses := true, apart := false, narrowed := true }
def FnPlayTurnsUptoSaid : Prop := fnPlayTurnsUptoRow.holds Try.pinned (OpenSpec.upto fnPlayTurnsSpec)

/-- 'laws.FnPlayBoth', WHERE WHAT IT READS IS OF BULK AT MOST 1048576: true; the input reads as it did. -/
def fnPlayBothUptoRow : OpenClaim := { program := "ytoodmppijlfaoaa", sum := "0737b885449a94394c712a2150992d440f140d6f4935d9279d17d9647c45ddf4", func := "loop.example/lib-g01424/laws.FnPlayBoth", spec := "fnPlayBoth", unfollowed := true, recurses := true, apart := false, narrowed := true }
def FnPlayBothUptoSaid : Prop := fnPlayBothUptoRow.holds Try.pinned (OpenSpec.upto fnPlayBothSpec)

/-- 'laws.FnPlayMirror', WHERE WHAT IT READS IS OF BULK AT MOST 1048576: true; the input reads as it did. -/
def fnPlayMirrorUptoRow : OpenClaim := { program := "ytoodmppijlfaoaa", sum := "0737b885449a94394c712a2150992d440f140d6f4935d9279d17d9647c45ddf4", func := "loop.example/lib-g01424/laws.FnPlayMirror", spec := "fnPlayMirror", unfollowed := true, recurses := true, apart := false, narrowed := true }
def FnPlayMirrorUptoSaid : Prop := fnPlayMirrorUptoRow.holds Try.pinned (OpenSpec.upto fnPlayMirrorSpec)

/-- 'laws.FnPlayOnce', WHERE WHAT IT READS IS OF BULK AT MOST 1048576: true; the input reads as it did. -/
def fnPlayOnceUptoRow : OpenClaim := { program := "ytoodmppijlfaoaa", sum := "0737b885449a94394c712a2150992d440f140d6f4935d9279d17d9647c45ddf4", func := "loop.example/lib-g01424/laws.FnPlayOnce", spec := "fnPlayOnce", unfollowed := true, recurses := true, apart := false, narrowed := true }
def FnPlayOnceUptoSaid : Prop := fnPlayOnceUptoRow.holds Try.pinned (OpenSpec.upto fnPlayOnceSpec)

/-- 'laws.FnPlayRelabel', WHERE WHAT IT READS IS OF BULK AT MOST 1048576: true; the input reads as it did. -/
def fnPlayRelabelUptoRow : OpenClaim := { program := "ytoodmppijlfaoaa", sum := "0737b885449a94394c712a2150992d440f140d6f4935d9279d17d9647c45ddf4", func := "loop.example/lib-g01424/laws.FnPlayRelabel", spec := "fnPlayRelabel", unfollowed := true, recurses := true, apart := false, narrowed := true }
def FnPlayRelabelUptoSaid : Prop := fnPlayRelabelUptoRow.holds Try.pinned (OpenSpec.upto fnPlayRelabelSpec)

/-- 'laws.FnLinksChain', WHERE WHAT IT READS IS OF BULK AT MOST 1048576: true; the input reads as it did. -/
def fnLinksChainUptoRow : OpenClaim := { program := "ytoodmppijlfaoaa", sum := "0737b885449a94394c712a2150992d440f140d6f4935d9279d17d9647c45ddf4", func := "loop.example/lib-g01424/laws.FnLinksChain", spec := "fnLinksChain", unfollowed := true, recurses := true, apart := false, narrowed := true }
def FnLinksChainUptoSaid : Prop := fnLinksChainUptoRow.holds Try.pinned (OpenSpec.upto fnLinksChainSpec)

/-- 'laws.FnCircleBoth', WHERE WHAT IT READS IS OF BULK AT MOST 1048576: true; the input reads as it did. -/
def fnCircleBothUptoRow : OpenClaim := { program := "ytoodmppijlfaoaa", sum := "0737b885449a94394c712a2150992d440f140d6f4935d9279d17d9647c45ddf4", func := "loop.example/lib-g01424/laws.FnCircleBoth", spec := "fnCircleBoth", apart := false, narrowed := true }
def FnCircleBothUptoSaid : Prop := fnCircleBothUptoRow.holds Try.pinned (OpenSpec.upto fnCircleBothSpec)

/-- 'laws.FnCircleEnds', WHERE WHAT IT READS IS OF BULK AT MOST 1048576: true; the input reads as it did. -/
def fnCircleEndsUptoRow : OpenClaim := { program := "ytoodmppijlfaoaa", sum := "0737b885449a94394c712a2150992d440f140d6f4935d9279d17d9647c45ddf4", func := "loop.example/lib-g01424/laws.FnCircleEnds", spec := "fnCircleEnds", apart := false, narrowed := true }
def FnCircleEndsUptoSaid : Prop := fnCircleEndsUptoRow.holds Try.pinned (OpenSpec.upto fnCircleEndsSpec)

/-- 'laws.FnCircleRecurs', WHERE WHAT IT READS IS OF BULK AT MOST 1048576: true; the input reads as it did. -/
def fnCircleRecursUptoRow : OpenClaim := { program := "ytoodmppijlfaoaa", sum := "0737b885449a94394c712a2150992d440f140d6f4935d9279d17d9647c45ddf4", func := "loop.example/lib-g01424/laws.FnCircleRecurs", spec := "fnCircleRecurs", apart := false, narrowed := true }
def FnCircleRecursUptoSaid : Prop := fnCircleRecursUptoRow.holds Try.pinned (OpenSpec.upto fnCircleRecursSpec)

/-- 'laws.FnTurnBoth', WHERE WHAT IT READS IS OF BULK AT MOST 1048576: true; the input reads as it did. -/
def fnTurnBothUptoRow : OpenClaim := { program := "ytoodmppijlfaoaa", sum := "0737b885449a94394c712a2150992d440f140d6f4935d9279d17d9647c45ddf4", func := "loop.example/lib-g01424/laws.FnTurnBoth", spec := "fnTurnBoth", unfollowed := true, recurses := true, apart := false, narrowed := true }
def FnTurnBothUptoSaid : Prop := fnTurnBothUptoRow.holds Try.pinned (OpenSpec.upto fnTurnBothSpec)

/-- 'laws.FnTurnTwice', WHERE WHAT IT READS IS OF BULK AT MOST 1048576: true; the input reads as it did. -/
def fnTurnTwiceUptoRow : OpenClaim := { program := "ytoodmppijlfaoaa", sum := "0737b885449a94394c712a2150992d440f140d6f4935d9279d17d9647c45ddf4", func := "loop.example/lib-g01424/laws.FnTurnTwice", spec := "fnTurnTwice", unfollowed := true, recurses := true, apart := false, narrowed := true }
def FnTurnTwiceUptoSaid : Prop := fnTurnTwiceUptoRow.holds Try.pinned (OpenSpec.upto fnTurnTwiceSpec)

end Rows
end Go.Proofs.Ytoodmppijlfaoaa
