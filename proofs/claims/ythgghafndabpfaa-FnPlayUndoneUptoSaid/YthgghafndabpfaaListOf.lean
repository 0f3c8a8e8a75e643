/- The walks of values and listOf. -/
import Derived.Test.YthgghafndabpfaaList2
namespace Go.Proofs.Ythgghafndabpfaa
open Go.RowKit

/-- A pointer to a list in an interface. -/
abbrev IL (b : Nat) : Value := .iface 37 (P b)
theorem run_assert_list (b : Nat) (w : World) : (Instr.typeAssert (IL b) 20 37 false).run Try.prog w = .ok (P b) w := by
  simp [Instr.typeAssert, run_underlying Try.underlying37]

section
variable {w w' : World} {l : Nat} {es : List Nat} {vs : List Value}

theorem LC.cell3 (h : LC w l es vs) {i : Nat} (hi : i < es.length) : w.cell? ⟨es[i], 3, none⟩ = some (vs[i]'(by rw [← h.len_eq]; exact hi)) := by
  have hl := h.len_eq
  obtain ⟨nx, pv, val, hst, rfl⟩ := h
  rw [(hst.own _ (List.getElem_mem hi)).2]
  simp

theorem LC.cell3i {xs : List Int} (h : LC w l es (xs.map I)) {i : Nat} (hi : i < es.length) (hx : i < xs.length) : w.cell? ⟨es[i], 3, none⟩ = some (I xs[i]) := by
  rw [h.cell3 hi]; simp
/-- The element at a place, or nil. -/
def pAt (es : List Nat) (i : Nat) : Value := match es[i]? with | some b => P b | none => .pointer none
theorem pAt_in {es : List Nat} {i : Nat} (h : i < es.length) : pAt es i = P es[i] := by unfold pAt; rw [List.getElem?_eq_getElem h]
theorem pAt_out {es : List Nat} {i : Nat} (h : ¬ i < es.length) : pAt es i = .pointer none := by unfold pAt; rw [List.getElem?_eq_none (by omega)]
/-- Next, wherever. -/
theorem enext_lc (h : LC w l es vs) {i : Nat} (hi : i < es.length) :
    Calls Try.prog 34 #[P es[i]] w fun r w' => r = .returned (pAt es (i + 1)) ∧ w = w' := by
  by_cases h1 : i + 1 < es.length
  · rw [pAt_in h1]; exact enext_some h h1
  · rw [pAt_out h1]
    have := enext_none h (by omega)
    have e : es.length - 1 = i := by omega
    simp only [e] at this
    exact this
theorem front_lc (h : LC w l es vs) : Calls Try.prog 33 #[P l] w fun r w' => r = .returned (pAt es 0) ∧ w = w' := by
  rcases Nat.eq_zero_or_pos es.length with h0 | h0
  · obtain rfl : es = [] := List.eq_nil_of_length_eq_zero h0
    exact front_none h
  · rw [pAt_in h0]; exact front_some h h0

set_option maxRecDepth 100000 in
set_option maxHeartbeats 1000000 in
theorem values_lc (xs : List Int) (h : LC w l es (xs.map I)) (hl : xs.length ≤ 17592186043904) : Calls Try.prog 22 #[P l] w (NewInts w xs) := by
  obtain ⟨i0, hi, hz0, hz1, hz2⟩ := info_parts intInfo
  have hel : es.length = xs.length := by rw [h.len_eq]; simp
  have HEL := Lib.hid hel
  have H := Lib.hid h
  clear h hel
  go_enter Try.func22, Try.ntmps22
  go_wp2_with fail
  refine (front_lc (H.out.bl (bl_alloc (bl_refl w) _))).mono ?_
  rintro e w1 ⟨rfl, rfl⟩
  go_wp2
  go_loopg [3, 4] es.length (fun g o p wr => ∃ j, j + g = es.length ∧ p = pAt es j ∧ OwnI wr w.heap.size o (xs.take j) ∧ Bl w wr)
  case atStart => exact ⟨0, by omega, rfl, own_empty _ _ _, bl_alloc (bl_refl _) _⟩
  case round =>
    obtain ⟨j, hj, rfl, hown, hbl⟩ := hrel
    have HO := Lib.hid hown
    have HB := Lib.hid hbl
    have HJ := Lib.hid hj
    clear hown hbl hj
    by_cases hlt : j < es.length
    · have hjx : j < xs.length := by have := HEL.out; omega
      have c3 := (H.out.bl HB.out).cell3i hlt hjx
      have hta := run_assert_int xs[j]
      have HS := Lib.hid (List.take_succ_eq_append_getElem hjx)
      have hlen : (xs.take j).length = j := by rw [List.length_take]; omega
      have HLEN := Lib.hid hlen
      rw [pAt_in hlt]
      have HN := Lib.hid (fun (w1 : World) (hb : Bl w w1) => enext_lc (H.out.bl hb) hlt)
      clear hlen
      generalize xs[j] = y at *
      generalize es[j] = q at *
      go_wp2_with (at_builtin; go_must (refine wpList_push wr rfl (.tmp 12) (.tmp 18) _ rfl w.heap.size 3 i0 _ 8 Try.underlying23 hi hz0 hz1 hz2 rfl u3 _ _ rfl HO.out (.int .i64 y) rfl rfl rfl (by rw [HLEN.out]; omega) (by rw [HLEN.out]; omega) HB.out.size ?_); intro v1 w4 hown4 hchg4 hloc4)
      have HO4 := Lib.hid hown4
      have HB4 := Lib.hid (bl_own HB.out HO.out hchg4)
      clear hown4 hchg4 hloc4
      go_wp2_with fail
      refine (HN.out _ HB4.out).mono ?_
      rintro e w5 ⟨rfl, rfl⟩
      go_wp2
      go_roundg (es.length - (j + 1))
      case rel => exact ⟨j + 1, by omega, rfl, by rw [HS.out]; exact OwnI.snoc HO4.out, HB4.out⟩
      case measure => have := HJ.out; omega
    · rw [pAt_out hlt]
      go_wp2
      go_ret
      refine ⟨_, rfl, ?_, HB.out⟩
      have h := HO.out
      have e : xs.take j = xs := List.take_of_length_le (by have := HEL.out; omega)
      rw [e] at h
      exact h

/-- What listOf gives: a new list. -/
def NewListOf (w : World) (vs : List Value) (e : Ending) (w' : World) : Prop :=
  ∃ l es, e = .returned (P l) ∧ LC w' l es vs ∧ (∀ b ∈ l :: es, w.heap.size ≤ b) ∧ Bl w w'

theorem list_grow {w w1 w2 : World} {l : Nat} {es : List Nat} (hb : Bl w w1) (hge : ∀ b ∈ l :: es, w.heap.size ≤ b) (hc : Chg (· ∈ l :: es) w1 w2) : (∀ b ∈ l :: (es ++ [w1.heap.size]), w.heap.size ≤ b) ∧ Bl w w2 := by
  refine ⟨fun b hx => ?_, bl_chg hb hc hge⟩
  rcases List.mem_cons.1 hx with rfl | hx
  · exact hge b (by simp)
  · rcases List.mem_append.1 hx with hx | hx
    · exact hge b (by simp [hx])
    · simp at hx; rw [hx]; exact hb.size

end

end Go.Proofs.Ythgghafndabpfaa
