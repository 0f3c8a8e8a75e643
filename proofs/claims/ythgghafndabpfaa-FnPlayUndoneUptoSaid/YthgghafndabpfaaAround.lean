/- The walks of ringOf and around: a ring of values, and the values of a ring. -/
import Derived.Test.YthgghafndabpfaaRingId
namespace Go.Proofs.Ythgghafndabpfaa
open Go.RowKit

theorem Ring.setVal {w : World} {D : Nat → Prop} {ad nx pv : Nat → Nat} {val : Nat → Value} (h : Ring w D ad nx pv val) {i : Nat} (hd : D i) (u : Value) :
    Ring (w.setCell ⟨ad i, 2, none⟩ u) D ad nx pv (fun j => if j = i then u else val j) ∧ (∀ b, Inited w b → Inited (w.setCell ⟨ad i, 2, none⟩ u) b) := by
  refine ⟨⟨fun j hj => ?_, h.inj, h.nxD, h.pvD, h.pn, h.np⟩, fun b hb => ?_⟩
  · obtain ⟨a, c, e, r⟩ := h.node j hj
    by_cases hji : j = i
    · subst hji
      refine ⟨a, c, ?_, r⟩
      rw [heap_setCell_same e, if_pos rfl]
      rfl
    · refine ⟨a, c, ?_, r⟩
      rw [Below.heap_setCell _ _ _ _ (fun e' => hji (h.inj j i hj hd e')), if_neg hji]
      exact e
  · obtain ⟨n, p, v, hb⟩ := hb
    by_cases hbi : b = ad i
    · subst hbi
      refine ⟨n, p, u, ?_⟩
      unfold INode at *
      rw [heap_setCell_same hb]; rfl
    · exact ⟨n, p, v, hb.far hbi u⟩


end Go.Proofs.Ythgghafndabpfaa
