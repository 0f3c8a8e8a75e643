/- The contracts of container/ring, further: New; a ring of values. -/
import Derived.Test.YthgghafndabpfaaRing2
import Derived.Test.YthgghafndabpfaaTurnPure
namespace Go.Proofs.Ythgghafndabpfaa
open Go.RowKit

/-- An element on the way: the last one has no next one yet, the first one none ahead. -/
def hnx (B i j : Nat) : Value := if j + 1 < i then P (B + (j + 1)) else .pointer none
def hpv (B j : Nat) : Value := if 0 < j then P (B + (j - 1)) else .pointer none
def half (w : World) (B i j : Nat) : Prop := w.heap[B + j]? = some (.cells #[hnx B i j, hpv B j, .nilIface] 50 (0, 0))
theorem hnx_in {B i j : Nat} (h : j + 1 < i) : hnx B i j = P (B + (j + 1)) := if_pos h
theorem hnx_out {B i j : Nat} (h : ¬ j + 1 < i) : hnx B i j = .pointer none := if_neg h
theorem hpv_in {B j : Nat} (h : 0 < j) : hpv B j = P (B + (j - 1)) := if_pos h
theorem hpv_zero {B : Nat} : hpv B 0 = .pointer none := rfl

/-- One element more. -/
theorem half_more {wr : World} {B k : Nat} (hs : wr.heap.size = B + (k + 1)) (hh : ∀ j, j < k + 1 → half wr B (k + 1) j) :
    ∀ j, j < k + 2 → half ((wr.setCell ⟨B + k, 0, none⟩ (P wr.heap.size)).alloc (.cells #[.pointer none, P (B + k), .nilIface] 50)) B (k + 2) j := by
  intro j hj
  unfold half
  by_cases hj1 : j = k + 1
  · subst hj1
    have h := heap_alloc_new (wr.setCell ⟨B + k, 0, none⟩ (P wr.heap.size)) (.cells #[.pointer none, P (B + k), .nilIface] 50)
    rw [World.size_setCell] at h
    rw [← hs, h, hnx_out (by omega), hpv_in (by omega)]
    rfl
  · rw [Below.heap_alloc _ _ _ (by rw [World.size_setCell, hs]; omega)]
    have hj2 := hh j (by omega)
    unfold half at hj2
    by_cases hj3 : j = k
    · subst hj3
      rw [heap_setCell_same hj2, hnx_in (B := B) (i := j + 2) (j := j) (by omega), hs]
      rfl
    · rw [Below.heap_setCell _ _ _ _ (by show B + j ≠ B + k; omega), hj2, hnx_in (by omega), hnx_in (by omega)]

/-- The ring is closed. -/
theorem half_close {wr : World} {B k : Nat} (hh : ∀ j, j < k + 1 → half wr B (k + 1) j) :
    ∀ j, j < k + 1 → ((wr.setCell ⟨B + k, 0, none⟩ (P B)).setCell ⟨B, 1, none⟩ (P (B + k))).heap[B + j]? = some (.cells #[P (B + nxc (k + 1) j), P (B + pvc (k + 1) j), .nilIface] 50 (0, 0)) := by
  intro j hj
  have hj2 := hh j hj
  unfold half at hj2
  have e1 : nxc (k + 1) j = if j + 1 < k + 1 then j + 1 else 0 := rfl
  have e2 : pvc (k + 1) j = if j = 0 then k else j - 1 := rfl
  by_cases hjk : j = k
  · subst hjk
    rw [if_neg (by omega)] at e1
    by_cases hj0 : j = 0
    · subst hj0
      rw [if_pos rfl] at e2
      rw [e1, e2]
      have h1 := heap_setCell_same (i := 0) hj2 (P B)
      have h2 := heap_setCell_same (i := 1) h1 (P (B + 0))
      exact h2
    · rw [if_neg hj0] at e2
      rw [e1, e2, Below.heap_setCell _ _ _ _ (by show B + j ≠ B; omega), heap_setCell_same hj2, hpv_in (by omega)]
      rfl
  · rw [if_pos (by omega)] at e1
    by_cases hj0 : j = 0
    · subst hj0
      rw [if_pos rfl] at e2
      have h1 : (wr.setCell ⟨B + k, 0, none⟩ (P B)).heap[B + 0]? = some (.cells #[hnx B (k + 1) 0, hpv B 0, .nilIface] 50 (0, 0)) := by
        rw [Below.heap_setCell _ _ _ _ (by show B + 0 ≠ B + k; omega)]; exact hj2
      have h2 := heap_setCell_same (i := 1) h1 (P (B + k))
      rw [hnx_in (B := B) (i := k + 1) (j := 0) (by omega)] at h2
      rw [e1, e2]
      exact h2
    · rw [if_neg hj0] at e2
      rw [e1, e2, Below.heap_setCell _ _ _ _ (by show B + j ≠ B; omega), Below.heap_setCell _ _ _ _ (by show B + j ≠ B + k; omega), hj2, hnx_in (by omega), hpv_in (by omega)]

/-- What New gives: n elements in a ring, the first one told; nothing else has changed. -/
structure NewRing (w : World) (n : Nat) (w' : World) : Prop where
  ring : Ring w' (· < n) (w.heap.size + ·) (nxc n) (pvc n) (fun _ => .nilIface)
  inited : ∀ j, j < n → Inited w' (w.heap.size + j)
  size : w'.heap.size = w.heap.size + n
  bl : Bl w w'

theorem newRing_of {w w' : World} {n : Nat} (hn : 0 < n) (hb : ∀ j, j < n → w'.heap[w.heap.size + j]? = some (.cells #[P (w.heap.size + nxc n j), P (w.heap.size + pvc n j), .nilIface] 50 (0, 0))) (hs : w'.heap.size = w.heap.size + n) (hbl : Bl w w') : NewRing w n w' := by
  refine ⟨⟨fun j hj => ⟨_, _, hb j hj, .inl ⟨rfl, rfl⟩⟩, fun i j _ _ e => by omega, fun j hj => ?_, fun j hj => ?_, fun j hj => ?_, fun j hj => ?_⟩, fun j hj => ⟨_, _, _, hb j hj⟩, hs, hbl⟩
  · unfold nxc; split <;> omega
  · unfold pvc; split <;> omega
  · unfold nxc pvc
    by_cases h : j + 1 < n
    · rw [if_pos h, if_neg (by omega)]; omega
    · rw [if_neg h, if_pos rfl]; omega
  · unfold nxc pvc
    by_cases h : j = 0
    · rw [if_pos h, if_neg (by omega)]; omega
    · rw [if_neg h, if_pos (by omega)]; omega

set_option maxRecDepth 100000 in
set_option maxHeartbeats 400000 in
theorem new_none (n : Int) (hn : n ≤ 0) (w : World) : Calls Try.prog 24 #[.int .i64 n] w fun e w' => e = .returned (.pointer none) ∧ w = w' := by
  go_enter Try.func24, Try.ntmps24
  go_wp2
  go_ret
  exact ⟨rfl, rfl⟩

set_option maxRecDepth 100000 in
set_option maxHeartbeats 1000000 in
theorem new_some (n : Nat) (hn : 0 < n) (hn2 : n ≤ 4611686018427387904) (w : World) : Calls Try.prog 24 #[.int .i64 n] w fun e w' => e = .returned (P w.heap.size) ∧ NewRing w n w' := by
  have hd0 : decide (n = 0) = false := by simp; omega
  go_enter Try.func24, Try.ntmps24
  go_wp2
  clear hd0
  go_loopw [4, 5] (fun p i wr => ∃ k : Nat, k < n ∧ i = .int .i64 ((k : Int) + 1) ∧ p = P (w.heap.size + k) ∧ wr.heap.size = w.heap.size + (k + 1) ∧ (∀ j, j < k + 1 → half wr w.heap.size (k + 1) j) ∧ Bl w wr) (fun _ i _ => n - (intOf i).toNat)
  case atStart =>
    refine ⟨0, hn, rfl, rfl, by simp, fun j hj => ?_, bl_alloc (bl_refl _) _⟩
    obtain rfl : j = 0 := by omega
    exact heap_alloc_new w _
  case round =>
    obtain ⟨k, hk, rfl, rfl, hsz, hh, hbl⟩ := hrel
    have HS := Lib.hid hsz
    have HH := Lib.hid hh
    have HB := Lib.hid hbl
    have hk0 := hh k (by omega)
    unfold half at hk0
    rw [hnx_out (by omega)] at hk0
    have c0 : wr.cell? ⟨w.heap.size + k, 0, none⟩ = some (.pointer none) := by rw [cell_of_heap hk0]; rfl
    have f0 := frozen_of_heap (i := 0) hk0
    have hlt0 : w.heap.size + k < wr.heap.size := by omega
    clear hsz hh hbl
    by_cases hlt : k + 1 < n
    · clear hk0
      go_wp2
      go_roundw
      case rel => exact ⟨k + 1, by omega, by go_num, by rw [HS.out], by rw [World.size_alloc, World.size_setCell, HS.out]; omega, half_more HS.out HH.out, bl_alloc (bl_set HB.out (by simp) _) _⟩
      case measure => simp [intOf]; omega
    · obtain rfl : n = k + 1 := by omega
      have c1 : ∃ x, (wr.setCell ⟨w.heap.size + k, 0, none⟩ (P w.heap.size)).cell? ⟨w.heap.size, 1, none⟩ = some x := by
        rw [World.cell?_setCell_other _ _ _ _ (by simp)]
        have h := HH.out 0 (by omega)
        unfold half at h
        rw [Nat.add_zero] at h
        rw [cell_of_heap h]
        exact ⟨_, rfl⟩
      obtain ⟨x, c1⟩ := c1
      have f1 : wr.frozen? ⟨w.heap.size, 1, none⟩ = false := by
        have h := HH.out 0 (by omega)
        unfold half at h
        rw [Nat.add_zero] at h
        exact frozen_of_heap h
      clear hk0
      go_wp2
      go_ret
      exact ⟨rfl, newRing_of hn (half_close HH.out) (by rw [World.size_setCell, World.size_setCell, HS.out]) (bl_set (bl_set HB.out (by simp) _) (by simp) _)⟩

end Go.Proofs.Ythgghafndabpfaa
