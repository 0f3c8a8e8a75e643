/- The walks of ringOf and around: a ring of values, and the values of a ring. -/
import Derived.Test.YtebkmegkdcnfaaaRingId
namespace Go.Proofs.Ytebkmegkdcnfaaa
open Go.RowKit

theorem Ring.setVal {w : World} {D : Nat → Prop} {ad nx pv : Nat → Nat} {val : Nat → Value} (h : Ring w D ad nx pv val) {i : Nat} (hd : D i) (u : Value) :
    Ring (w.setCell ⟨ad i, 2, none⟩ u) D ad nx pv (fun j => if j = i then u else val j) ∧ (∀ b, Inited w b → Inited (w.setCell ⟨ad i, 2, none⟩ u) b) := by
  refine ⟨⟨fun j hj => ?_, h.inj, h.nxD, h.pvD, h.pn, h.np⟩, fun b hb => ?_⟩
  · obtain ⟨a, c, e, r⟩ := h.node j hj
    by_cases hji : j = i
    · subst hji
      refine ⟨a, c, ?_, r⟩
      rw [heap_setCell_same e, if_pos rfl]
      rfl
    · refine ⟨a, c, ?_, r⟩
      rw [Below.heap_setCell _ _ _ _ (fun e' => hji (h.inj j i hj hd e')), if_neg hji]
      exact e
  · obtain ⟨n, p, v, hb⟩ := hb
    by_cases hbi : b = ad i
    · subst hbi
      refine ⟨n, p, u, ?_⟩
      unfold INode at *
      rw [heap_setCell_same hb]; rfl
    · exact ⟨n, p, v, hb.far hbi u⟩

/-- What ringOf gives: a ring of the numbers, their blocks one behind the other. -/
structure RingOf (w : World) (xs : List Int) (w' : World) : Prop where
  ring : Ring w' (· < xs.length) (w.heap.size + ·) (nxc xs.length) (pvc xs.length) (fun j => I (xs.getD j 0))
  inited : ∀ j, j < xs.length → Inited w' (w.heap.size + j)
  bl : Bl w w'

set_option maxRecDepth 100000 in
set_option maxHeartbeats 400000 in
theorem ringOf_none (v : Value) (w : World) (hv : Ints w v []) : Calls Try.prog 63 #[v] w fun e w' => e = .returned (.pointer none) ∧ w = w' := by
  obtain ⟨A, c, rfl, hc, hm, _⟩ := hv.open
  simp only [List.length_nil] at *
  go_enter Try.func63, Try.ntmps63
  go_wp2_with fail
  refine (new_none 0 (by omega) _).mono ?_
  rintro e w1 ⟨rfl, rfl⟩
  go_wp2
  refine wp_loop_rounds 1 ?_
  rw [rounds_succ]
  go_wp2
  go_ret
  exact ⟨rfl, rfl⟩

set_option maxRecDepth 100000 in
set_option maxHeartbeats 1000000 in
theorem ringOf_some (v : Value) (xs : List Int) (w : World) (hv : Ints w v xs) (h0 : 0 < xs.length) (hl : xs.length ≤ 17592186043904) :
    Calls Try.prog 63 #[v] w fun e w' => e = .returned (P w.heap.size) ∧ RingOf w xs w' := by
  obtain ⟨A, c, rfl, hc, hm, hv⟩ := hv.open
  have HV := Lib.hid hv
  clear hv
  unfold maxLen at hm
  go_enter Try.func63, Try.ntmps63
  go_wp2_with fail
  refine (new_some xs.length h0 (by omega) _).mono ?_
  rintro e w1 ⟨rfl, h1⟩
  have H1 := Lib.hid h1
  clear h1
  go_wp2
  go_loopw [3, 5, 11] (fun r _ i wr => ∃ k : Nat, k ≤ xs.length ∧ i = .int .i64 k ∧ r = P (w.heap.size + (if k < xs.length then k else 0)) ∧ Ring wr (· < xs.length) (w.heap.size + ·) (nxc xs.length) (pvc xs.length) (fun j => if j < k then I (xs.getD j 0) else .nilIface) ∧ (∀ j, j < xs.length → Inited wr (w.heap.size + j)) ∧ Bl w wr) (fun _ _ i _ => xs.length - (intOf i).toNat)
  case atStart => exact ⟨0, Nat.zero_le _, rfl, by rw [if_pos h0]; rfl, H1.out.ring, H1.out.inited, H1.out.bl⟩
  case round =>
    obtain ⟨k, hk, rfl, rfl, hring, hin, hbl⟩ := hrel
    have HR := Lib.hid hring
    have HI := Lib.hid hin
    have HB := Lib.hid hbl
    clear hring hin hbl
    by_cases hlt : k < xs.length
    · obtain ⟨b, off, rfl, hc1⟩ := HV.out k hlt
      have r1 := (HB.out.cell (World.block_lt_of_cell? _ _ hc1)).trans hc1
      clear hc1
      rw [if_pos hlt]
      have c2 : ∃ x, wr.cell? ⟨w.heap.size + k, 2, none⟩ = some x := by
        obtain ⟨a, c', e, _⟩ := HR.out.node k hlt
        rw [cell_of_heap e]; exact ⟨_, rfl⟩
      obtain ⟨x, c2⟩ := c2
      have f2 : wr.frozen? ⟨w.heap.size + k, 2, none⟩ = false := by
        obtain ⟨a, c', e, _⟩ := HR.out.node k hlt
        exact frozen_of_heap e
      have hsv := HR.out.setVal hlt (I xs[k])
      have HG : Hid (xs.getD k 0 = xs[k]) := by show _ = _; rw [List.getD_eq_getElem?_getD, List.getElem?_eq_getElem hlt]; rfl
      have HSV := Lib.hid hsv
      have HB1 := Lib.hid (bl_set (p := ⟨w.heap.size + k, 2, none⟩) HB.out (Nat.le_add_right _ _) (I xs[k]))
      clear hsv
      generalize xs[k] = y at *
      go_wp2_with fail
      refine (next_ring HSV.out.1 hlt).mono ?_
      rintro e w2 ⟨rfl, k2, _⟩
      have HK2 := Lib.hid k2
      have HB2 := Lib.hid (bl_chg HB1.out k2.chg fun i ⟨j, _, e⟩ => by subst e; exact Nat.le_add_right _ _)
      clear k2
      go_wp2
      go_roundw
      case rel =>
        refine ⟨k + 1, by omega, by go_num, ?_, ?_, fun j hj => HK2.out.inited _ (HSV.out.2 _ (HI.out j hj)), HB2.out⟩
        · rfl
        · have h := HK2.out.ring
          have e : (fun j => if j = k then I y else if j < k then I (xs.getD j 0) else Value.nilIface) = (fun j => if j < k + 1 then I (xs.getD j 0) else Value.nilIface) := by
            funext j
            by_cases hjk : j = k
            · subst hjk; rw [if_pos rfl, if_pos (by omega), HG.out]
            · rw [if_neg hjk]
              by_cases hj : j < k
              · rw [if_pos hj, if_pos (by omega)]
              · rw [if_neg hj, if_neg (by omega)]
          rw [e] at h
          exact h
      case measure => simp [intOf]; omega
    · obtain rfl : k = xs.length := by omega
      rw [if_neg hlt]
      go_wp2
      go_ret
      refine ⟨rfl, ?_, HI.out, HB.out⟩
      have h := HR.out
      refine ⟨fun j hj => ?_, h.inj, h.nxD, h.pvD, h.pn, h.np⟩
      have hn := h.node j hj
      rw [if_pos hj] at hn
      exact hn

end Go.Proofs.Ytebkmegkdcnfaaa
