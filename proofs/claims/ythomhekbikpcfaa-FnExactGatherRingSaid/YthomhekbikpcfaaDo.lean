/- The walks of Do and around. -/
import Derived.Test.YthomhekbikpcfaaAround
namespace Go.Proofs.Ythomhekbikpcfaa
open Go.RowKit

/-- All blocks of ring elements are as they were. -/
def KeepR (w w' : World) : Prop := ∀ (b : Nat) (cs : Array Value), w.heap[b]? = some (.cells cs 78 (0, 0)) → w'.heap[b]? = some (.cells cs 78 (0, 0))
theorem KeepR.refl (w : World) : KeepR w w := fun _ _ h => h
theorem KeepR.trans {a b c : World} (h : KeepR a b) (k : KeepR b c) : KeepR a c := fun x cs e => k x cs (h x cs e)
theorem KeepR.ring {w w' : World} (hk : KeepR w w') {D : Nat → Prop} {ad nx pv : Nat → Nat} {val : Nat → Value} (h : Ring w D ad nx pv val) : Ring w' D ad nx pv val := by
  refine ⟨fun i hi => ?_, h.inj, h.nxD, h.pvD, h.pn, h.np⟩
  obtain ⟨a, c, e, r⟩ := h.node i hi
  exact ⟨a, c, hk _ _ e, r⟩
theorem KeepR.inited {w w' : World} (hk : KeepR w w') {b : Nat} (h : Inited w b) : Inited w' b := by
  obtain ⟨n, p, v, h⟩ := h
  exact ⟨n, p, v, hk _ _ h⟩


end Go.Proofs.Ythomhekbikpcfaa
