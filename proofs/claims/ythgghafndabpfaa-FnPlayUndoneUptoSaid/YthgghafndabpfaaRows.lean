/-
  No cell of these rows narrows 'for every input' (looked for: loops, veiled, ifaces, maps, wideKeys, modest, calm, conditions, laid).
  DERIVED. THE GIVEN ROWS OF THIS SEAT. 2 by the template 'for every input the law returns true; each argument reads behind the call as it read before'; 0 by the template 'total and deterministic' (their statements: YthgghafndabpfaaTotals.lean).
  GIVEN WITH THE SEED: the statements are not yours to turn. If you find one false, say at which input.
  Laid BY PROGRAM, IN A SANDBOX (cutbox-rows.mjs): the forced cells as the released guide's own fill.sh prints them over the translation ef06e17636cc5a3e… (all of the seat's roots in one cut). By AI agents, Wed Nov 11 2026. No macro, syntax, notation, axiom, sorry.
-/
import Derived.Test.YthgghafndabpfaaChecked
import GoSem.Claim
import GoSem.ClaimJoined
import GoSem.ClaimMapViews
import Derived.JoinedTies
import Derived.KernelRfl
namespace Go.Proofs.Ythgghafndabpfaa
/- THE CELL 'sum', in the pinned program and in every row, IS THE sha256 OF THE DUMP (.gsa) THAT YthgghafndabpfaaProg.lean LOADS. Nothing in Lean hashes anything: it is a label: what it is worth is what the hold of that sum in a sandbox is worth. -/
noncomputable def Try.pinned : Pinned := { name := "ythgghafndabpfaa", sum := "ef06e17636cc5a3e703d490e3e8d7f6ad900517d9870b00ad52cadcbb48b20d3", checked := Try.checked }
namespace Rows
def none {H : Type} : Left H := { results := [], args := [] }

/-- 'laws.FnPlayUndone': WHATEVER THE INPUT: true; the input reads as it did. -/
def fnPlayUndoneSpec : ChangeSpec := { name := "fnPlayUndone", fn := fun _ => fun
  | [d1, d2] => { results := [.lit (.bool true)], args := [d1, d2] }
  | _ => none }
def fnPlayUndoneRow : OpenClaim := { program := "ythgghafndabpfaa", sum := "ef06e17636cc5a3e703d490e3e8d7f6ad900517d9870b00ad52cadcbb48b20d3", func := "loop.example/lib-g01424/laws.FnPlayUndone", spec := "fnPlayUndone", unfollowed := true, recurses := true, apart := false }
def FnPlayUndoneSaid : Prop := fnPlayUndoneRow.holds Try.pinned (OpenSpec.ofChange fnPlayUndoneSpec)

/-- ITS FALSE NEIGHBOUR: 'it returns false'. Refute it at one input. -/
def fnPlayUndoneWrong : ChangeSpec := { name := "fnPlayUndone", fn := fun _ => fun
  | [d1, d2] => { results := [.lit (.bool false)], args := [d1, d2] }
  | _ => none }
def FnPlayUndoneWrongFalsely : Prop := fnPlayUndoneRow.holds Try.pinned (OpenSpec.ofChange fnPlayUndoneWrong)

/-- 'laws.FnPlayRelabel': WHATEVER THE INPUT: true; the input reads as it did. -/
def fnPlayRelabelSpec : ChangeSpec := { name := "fnPlayRelabel", fn := fun _ => fun
  | [d1, d2, d3] => { results := [.lit (.bool true)], args := [d1, d2, d3] }
  | _ => none }
def fnPlayRelabelRow : OpenClaim := { program := "ythgghafndabpfaa", sum := "ef06e17636cc5a3e703d490e3e8d7f6ad900517d9870b00ad52cadcbb48b20d3", func := "loop.example/lib-g01424/laws.FnPlayRelabel", spec := "fnPlayRelabel", unfollowed := true, recurses := true, apart := false }
def FnPlayRelabelSaid : Prop := fnPlayRelabelRow.holds Try.pinned (OpenSpec.ofChange fnPlayRelabelSpec)

/-- ITS FALSE NEIGHBOUR: 'it returns false'. Refute it at one input. -/
def fnPlayRelabelWrong : ChangeSpec := { name := "fnPlayRelabel", fn := fun _ => fun
  | [d1, d2, d3] => { results := [.lit (.bool false)], args := [d1, d2, d3] }
  | _ => none }
def FnPlayRelabelWrongFalsely : Prop := fnPlayRelabelRow.holds Try.pinned (OpenSpec.ofChange fnPlayRelabelWrong)

/- THE SECOND FORM. 'bulk': how many values and letters a reading holds, each counted each time it is reached (what is shared counts as often as it is met; a slice's spare places count too). A statement '..UptoSaid' is the law's where the arguments, and the package variables that the reading takes, are together of bulk at most 1048576: NARROWER than '..Said'. Prove '..Said' where nothing that the law and all that it calls make is longer than what came in: it says more and counts as full. Else prove '..UptoSaid'. A law counts once. -/
mutual
def uptoBulk {H : Type} : DataW H → Nat
  | .lit (.string bytes) => bytes.length + 1
  | .lit _ => 1
  | .nil => 1
  | .ptr d => uptoBulk d + 1
  | .slice elems spare => uptoBulkAll elems + uptoBulkAll spare + 1
  | .agg parts => uptoBulkAll parts + 1
  | .iface _ d => uptoBulk d + 1
  | .map entries => uptoBulkEntries entries + 1
  | .held _ => 1
def uptoBulkAll {H : Type} : List (DataW H) → Nat
  | [] => 0
  | d :: r => uptoBulk d + uptoBulkAll r
def uptoBulkEntries {H : Type} : List (Lit × DataW H) → Nat
  | [] => 0
  | x :: r => uptoBulkEntry x + uptoBulkEntries r
def uptoBulkEntry {H : Type} : Lit × DataW H → Nat
  | (.string bytes, d) => bytes.length + uptoBulk d + 1
  | (_, d) => uptoBulk d + 1
 end
def uptoSmall : (H : Type) → List (DataW H) → Bool := fun _ ds => decide (uptoBulkAll ds ≤ 1048576)
def OpenSpec.upto (s : _root_.Go.ChangeSpec) : _root_.Go.OpenSpec := { _root_.Go.OpenSpec.ofChange s with cond := some uptoSmall }

/-- 'laws.FnPlayUndone', WHERE WHAT IT READS IS OF BULK AT MOST 1048576: true; the input reads as it did. -/
def fnPlayUndoneUptoRow : OpenClaim := { program := "ythgghafndabpfaa", sum := "ef06e17636cc5a3e703d490e3e8d7f6ad900517d9870b00ad52cadcbb48b20d3", func := "loop.example/lib-g01424/laws.FnPlayUndone", spec := "fnPlayUndone", unfollowed := true, recurses := true, apart := false, narrowed := true }
def FnPlayUndoneUptoSaid : Prop := fnPlayUndoneUptoRow.holds Try.pinned (OpenSpec.upto fnPlayUndoneSpec)

/-- 'laws.FnPlayRelabel', WHERE WHAT IT READS IS OF BULK AT MOST 1048576: true; the input reads as it did. -/
def fnPlayRelabelUptoRow : OpenClaim := { program := "ythgghafndabpfaa", sum := "ef06e17636cc5a3e703d490e3e8d7f6ad900517d9870b00ad52cadcbb48b20d3", func := "loop.example/lib-g01424/laws.FnPlayRelabel", spec := "fnPlayRelabel", unfollowed := true, recurses := true, apart := false, narrowed := true }
def FnPlayRelabelUptoSaid : Prop := fnPlayRelabelUptoRow.holds Try.pinned (OpenSpec.upto fnPlayRelabelSpec)

end Rows
end Go.Proofs.Ythgghafndabpfaa
