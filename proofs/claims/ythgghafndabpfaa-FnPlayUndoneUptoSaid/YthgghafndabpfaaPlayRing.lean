/- The walk of PlayRing over a ring with one element more. -/
import Derived.Test.YthgghafndabpfaaPlayStep
import Derived.Test.YthgghafndabpfaaRingPut
import Derived.Test.YthgghafndabpfaaAround
import Derived.Test.YthgghafndabpfaaDo
import Derived.Test.YthgghafndabpfaaOwnX
import Derived.Test.YthgghafndabpfaaTurnPure
namespace Go.Proofs.Ythgghafndabpfaa
open Go.RowKit

theorem ringPInfo : (Try.prog.info? 47).map (fun i => (i.zero, i.size, i.bytes)) = some (some (.pointer none), 1, 8) := by kernel_rfl

def cst (L : List Nat) : List Int := L.map fun j : Nat => (j : Int)
theorem cst_get {L : List Nat} {i e : Nat} (h : (cst L)[i]? = some (e : Int)) : L[i]? = some e := by
  unfold cst at h
  rw [List.getElem?_map] at h
  cases hL : L[i]? with
  | none => rw [hL] at h; cases h
  | some a =>
    rw [hL] at h
    have h1 : (a : Int) = (e : Int) := Option.some.inj h
    rw [show a = e by omega]
theorem cst_erase (L : List Nat) (i : Nat) : (cst L).eraseIdx i = cst (L.eraseIdx i) := by
  unfold cst; rw [List.eraseIdx_eq_take_drop_succ, List.eraseIdx_eq_take_drop_succ, List.map_append, List.map_take, List.map_drop]
theorem cst_ins (L : List Nat) (j e : Nat) : ins (cst L) j (e : Int) = cst (insAt L j e) := by
  unfold cst ins; rw [map_insAt]; rfl

/-- What a ring with a root tells of an order. -/
structure PathR (N : Nat) (nx : Nat → Nat) (xs : List Int) (L : List Nat) : Prop where
  path : Path nx N (N :: L) N
  eq : cst L = xs
  ord : Ord N xs
section
variable {N : Nat} {nx : Nat → Nat} {xs : List Int} {L : List Nat}
theorem PathR.lt (h : PathR N nx xs L) : ∀ x ∈ N :: L, x < N + 1 := by
  intro x hx
  rcases List.mem_cons.1 hx with rfl | hx
  · omega
  · have : (x : Int) ∈ xs := by rw [← h.eq]; exact List.mem_map.2 ⟨x, hx, rfl⟩
    have := (h.ord.mem _).1 this
    omega
theorem PathR.nodup (h : PathR N nx xs L) : (N :: L).Nodup := by
  refine List.nodup_cons.2 ⟨fun hm => ?_, ?_⟩
  · have : ((N : Nat) : Int) ∈ xs := by rw [← h.eq]; exact List.mem_map.2 ⟨N, hm, rfl⟩
    have := (h.ord.mem _).1 this
    omega
  · have h1 := h.ord.nodup
    rw [← h.eq] at h1
    unfold cst at h1
    exact (List.pairwise_map.1 h1).imp (fun h e => h (by rw [e]))
theorem PathR.len (h : PathR N nx xs L) : L.length = N := by
  have := h.ord.len
  rw [← h.eq] at this
  unfold cst at this
  rwa [List.length_map] at this
theorem PathR.at (h : PathR N nx xs L) {e : Nat} (he : e < N) : L[xs.idxOf (e : Int)]? = some e := by
  apply cst_get
  rw [h.eq]
  exact idx_get (h.ord.has he)
theorem PathR.mk_at (h : PathR N nx xs L) {e m : Nat} (he : e < N) (hm : m < N) (hne : e ≠ m) : (L.eraseIdx (xs.idxOf (e : Int)))[(xs.eraseIdx (xs.idxOf (e : Int))).idxOf (m : Int)]? = some m := by
  apply cst_get
  rw [← cst_erase, h.eq]
  exact idx_get (mem_erase h.ord he hm hne)
theorem PathR.ins (h : PathR N nx xs L) (i j e : Nat) : Go.Proofs.Ythgghafndabpfaa.ins (xs.eraseIdx i) j (e : Int) = cst (insAt (L.eraseIdx i) j e) := by
  rw [← h.eq, cst_erase, cst_ins]
/-- What is ahead of the root: the last one. -/
theorem PathR.pv_root (h : PathR N nx xs L) {pv : Nat → Nat} (pn : ∀ b, b < N + 1 → pv (nx b) = b) : pv N = (N :: L)[L.length] := by
  have h1 := h.path.get_last (by simp)
  have h2 := pn _ (h.lt _ (List.getElem_mem (l := N :: L) (n := (N :: L).length - 1) (by simp)))
  rw [h1] at h2
  exact h2
theorem PathR.pv_at (h : PathR N nx xs L) {pv : Nat → Nat} (pn : ∀ b, b < N + 1 → pv (nx b) = b) {t m : Nat} (ht : L[t]? = some m) : pv m = (N :: L)[t]'(by have := (List.getElem?_eq_some_iff.1 ht).1; simp; omega) := by
  obtain ⟨h0, rfl⟩ := List.getElem?_eq_some_iff.1 ht
  have h1 := h.path.get_succ t (by simpa using h0)
  have h2 := pn _ (h.lt _ (List.getElem_mem (l := N :: L) (n := t) (by simp; omega)))
  rw [h1] at h2
  exact h2
/-- The back: nothing, or behind the last one. -/
theorem PathR.back (h : PathR N nx xs L) {pv : Nat → Nat} (pn : ∀ b, b < N + 1 → pv (nx b) = b) {e : Nat} (he : e < N) :
    (pv N = e ∧ Go.Proofs.Ythgghafndabpfaa.ins (xs.eraseIdx (xs.idxOf (e : Int))) (xs.eraseIdx (xs.idxOf (e : Int))).length (e : Int) = xs) ∨ (N :: L.eraseIdx (xs.idxOf (e : Int)))[(xs.eraseIdx (xs.idxOf (e : Int))).length]? = some (pv N) := by
  have ha := h.at he
  obtain ⟨hi, hie⟩ := List.getElem?_eq_some_iff.1 ha
  have hlen := h.len
  have hlx := h.ord.len
  have hE : (xs.eraseIdx (xs.idxOf (e : Int))).length = N - 1 := by
    rw [List.length_eraseIdx, if_pos (by omega), hlx]
  rw [hE, h.pv_root pn]
  have hxi : xs[xs.idxOf (e : Int)]? = some (e : Int) := idx_get (h.ord.has he)
  generalize xs.idxOf (e : Int) = i at *
  obtain ⟨n, hn⟩ : ∃ n, L.length = n + 1 := ⟨L.length - 1, by omega⟩
  have e1 : (N :: L)[L.length] = L[n] := by simp only [hn, List.getElem_cons_succ]
  rw [e1]
  by_cases hl : i = n
  · left
    subst hl
    refine ⟨hie, ?_⟩
    obtain ⟨hxl, hxe⟩ := List.getElem?_eq_some_iff.1 hxi
    have := insAt_erase xs hxl
    rw [hxe] at this
    have e3 : N - 1 = i := by omega
    rw [e3]
    exact this
  · right
    have e3 : N - 1 = (n - 1) + 1 := by omega
    rw [e3, List.getElem?_cons_succ, List.getElem?_eraseIdx, if_neg (by omega)]
    have e4 : n - 1 + 1 = n := by omega
    rw [e4, List.getElem?_eq_getElem (by omega)]
/-- Ahead of another one: nothing, or behind what is ahead of it. -/
theorem PathR.before (h : PathR N nx xs L) {pv : Nat → Nat} (pn : ∀ b, b < N + 1 → pv (nx b) = b) {e m : Nat} (he : e < N) (hm : m < N) (hne : e ≠ m) :
    (pv m = e ∧ Go.Proofs.Ythgghafndabpfaa.ins (xs.eraseIdx (xs.idxOf (e : Int))) ((xs.eraseIdx (xs.idxOf (e : Int))).idxOf (m : Int)) (e : Int) = xs) ∨ (N :: L.eraseIdx (xs.idxOf (e : Int)))[(xs.eraseIdx (xs.idxOf (e : Int))).idxOf (m : Int)]? = some (pv m) := by
  have ha := h.at he
  have hb := h.at hm
  have hj := h.mk_at he hm hne
  have hpv := h.pv_at pn hb
  rw [hpv]
  have hxi : xs[xs.idxOf (e : Int)]? = some (e : Int) := idx_get (h.ord.has he)
  generalize (xs.eraseIdx (xs.idxOf (e : Int))).idxOf (m : Int) = j at *
  generalize xs.idxOf (e : Int) = i at *
  generalize xs.idxOf (m : Int) = t at *
  obtain ⟨hi, hie⟩ := List.getElem?_eq_some_iff.1 ha
  obtain ⟨ht, htm⟩ := List.getElem?_eq_some_iff.1 hb
  have hnd := (List.nodup_cons.1 h.nodup).2
  -- the place of m in the rest
  have hjt : (if j < i then j else j + 1) = t := by
    rw [List.getElem?_eraseIdx] at hj
    split at hj
    · rename_i hji
      obtain ⟨hjl, hje⟩ := List.getElem?_eq_some_iff.1 hj
      rw [if_pos hji]
      exact (List.getElem_inj hnd).1 (hje.trans htm.symm)
    · rename_i hji
      obtain ⟨hjl, hje⟩ := List.getElem?_eq_some_iff.1 hj
      rw [if_neg hji]
      exact (List.getElem_inj hnd).1 (hje.trans htm.symm)
  have hit : i ≠ t := fun x => by subst x; exact hne (hie.symm.trans htm)
  by_cases hji : j < i
  · rw [if_pos hji] at hjt
    subst hjt
    right
    cases j with
    | zero => rfl
    | succ j =>
      rw [List.getElem?_cons_succ, List.getElem?_eraseIdx, if_pos (by omega), List.getElem?_eq_getElem (by omega)]
      rfl
  · rw [if_neg hji] at hjt
    subst hjt
    simp only [List.getElem_cons_succ]
    by_cases hjj : j = i
    · left
      subst hjj
      refine ⟨hie, ?_⟩
      obtain ⟨hxl, hxe⟩ := List.getElem?_eq_some_iff.1 hxi
      have := insAt_erase xs hxl
      rw [hxe] at this
      exact this
    · right
      obtain ⟨j', rfl⟩ : ∃ j', j = j' + 1 := ⟨j - 1, by omega⟩
      rw [List.getElem?_cons_succ, List.getElem?_eraseIdx, if_neg (by omega), List.getElem?_eq_getElem (by omega)]
end

/-- A ring with a root, its elements at B on, in an order. -/
structure PlayR (w wr : World) (B N : Nat) (ev : Value) (nx pv : Nat → Nat) (xs : List Int) (L : List Nat) : Prop where
  ring : Ring wr (· < N + 1) (B + ·) nx pv (fun j => I (j : Int))
  path : PathR N nx xs L
  ge : w.heap.size ≤ B
  bl : Bl w wr
  el : wr.ownsRow w.heap.size 47 1 ev N ((List.range N).map fun i => P (B + i))
theorem PlayR.elem_cell {w wr : World} {B N c : Nat} {A : Option Addr} {nx pv : Nat → Nat} {xs : List Int} {L : List Nat} (h : PlayR w wr B N (.slice A N c) nx pv xs L) {k : Nat} (hk : k < N) :
    ∃ g, A = some ⟨g, 0, none⟩ ∧ wr.cell? ⟨g, k, none⟩ = some (P (B + k)) := by
  obtain ⟨A', c', e, _, _, hA⟩ := own_open h.el
  simp at e
  obtain ⟨rfl, rfl⟩ := e
  obtain ⟨g, rfl, _, _⟩ := hA (by omega)
  refine ⟨g, rfl, ?_⟩
  rw [own_cell h.el (by omega), List.getD_eq_getElem?_getD, List.getElem?_map, List.getElem?_range hk]
  rfl
/-- The same, in a world in which only the ring's own blocks were written. -/
theorem PlayR.kept {w wr w2 w3 : World} {B N : Nat} {ev : Value} {nx pv nx' pv' : Nat → Nat} {xs ys : List Int} {L L' : List Nat} (h : PlayR w wr B N ev nx pv xs L) (hb : Bl wr w2) (hk : Kept w2 (· < N + 1) (B + ·) nx' pv' (fun j => I (j : Int)) w3) (hp : PathR N nx' ys L') : PlayR w w3 B N ev nx' pv' ys L' :=
  ⟨hk.ring, hp, h.ge, bl_chg (bl_trans h.bl hb) hk.chg (by rintro i ⟨j, _, e⟩; subst e; exact Nat.le_trans h.ge (Nat.le_add_right _ _)), hk.own (h.ring.bl hb) (own_bl h.el hb) (by decide)⟩

theorem PlayR.around {w wr w2 : World} {B N : Nat} {ev : Value} {nx pv : Nat → Nat} {xs : List Int} {L : List Nat} (h : PlayR w wr B N ev nx pv xs L) (hb : Bl wr w2) (hN : N < 200) :
    Calls Try.prog 28 #[P (B + N)] w2 fun e w' => ∃ v, e = .returned v ∧ OwnI w' w.heap.size v ((N : Int) :: xs) ∧ Bl w w' := by
  have hnd := h.path.nodup
  have hlt := h.path.lt
  have := around_any (h.ring.bl hb) (r := N) (by omega) L h.path.path (List.nodup_cons.1 hnd).1 (fun x hx => hlt x (List.mem_cons_of_mem _ hx)) (fun j => (j : Int)) (fun _ _ => rfl) (by rw [h.path.len]; omega)
  refine this.mono ?_
  rintro e w3 ⟨v, rfl, o, _, _, c⟩
  have e1 : (N :: L).map (fun j : Nat => (j : Int)) = (N : Int) :: xs := by rw [List.map_cons, ← h.path.eq]; rfl
  rw [e1] at o
  exact ⟨v, rfl, own_base o (Nat.le_trans h.bl.size hb.size), bl_chg (bl_trans h.bl hb) c (by rintro i ⟨j, _, e⟩; subst e; exact Nat.le_trans h.ge (Nat.le_add_right _ _))⟩

theorem path_root (N : Nat) : Path (nxc (N + 1)) N (N :: List.range N) N := by
  have h := path_nxc (N + 1) (by omega)
  rw [List.range_succ] at h
  exact h.turns (y := N) rfl
theorem nums_cst (n : Nat) : cst (List.range n) = nums n := by
  unfold cst
  induction n with
  | zero => rfl
  | succ n ih => rw [List.range_succ, List.map_append, ih, nums_succ]; rfl

set_option maxRecDepth 100000 in
set_option maxHeartbeats 4000000 in
theorem PlayRing_impl (a : Int) (v : Value) (ms : List Mv) (w : World) (hv : Mvs w v ms) : Calls Try.prog 11 #[.int .i64 a, v] w (NewX w (playOf a ms)) := by
  obtain ⟨i0, hi, hz0, hz1, hz2⟩ := info_parts ringPInfo
  obtain ⟨A, c, rfl, hc, hm, hv⟩ := hv.open
  have hn := ix_lt a (n := 200) (by omega)
  have HV := Lib.hid hv
  clear hv
  unfold maxLen at hm
  go_enter Try.func11, Try.ntmps11
  go_wp2_with fail
  refine (at_ix a 200 _ (by omega) (by omega)).mono ?_
  rintro e w0 ⟨rfl, rfl⟩
  have HP : Hid (playOf a ms = play (ix a 200) ms) := rfl
  generalize ix a 200 = N at *
  go_wp2_with fail
  refine (new_some (N + 1) (by omega) (by omega) _).mono ?_
  rintro e w1 ⟨rfl, h1⟩
  have H1 := Lib.hid h1
  have HB1 := Lib.hid (bl_trans (bl_alloc (bl_refl w0) (.cells #[] 47)) h1.bl)
  have HE1 := Lib.hid (own_bl (own_empty w0 47 1) h1.bl)
  clear h1
  have HGB : Hid (w0.heap.size ≤ (w0.alloc (.cells #[] 47)).heap.size) := by
    show _ ≤ _
    simp
  have H1R := Lib.hid H1.out.ring
  clear H1
  generalize (w0.alloc (.cells #[] 47)).heap.size = B at *
  have HGE : Hid (∀ i, At (· < N + 1) (B + ·) i → w0.heap.size ≤ i) := by
    rintro i ⟨j, _, e⟩
    subst e
    exact Nat.le_trans HGB.out (Nat.le_add_right _ _)
  go_wp2
  go_loopw [5, 6, 7] (fun ev r i wr => ∃ j : Nat, j ≤ N ∧ i = .int .i64 j ∧ r = P (B + j) ∧ Ring wr (· < N + 1) (B + ·) (nxc (N + 1)) (pvc (N + 1)) (fun t => if t < j then I (t : Int) else .nilIface) ∧ wr.ownsRow w0.heap.size 47 1 ev j ((List.range j).map fun i => P (B + i)) ∧ Bl w0 wr) (fun _ _ i _ => N - (intOf i).toNat)
  case atStart =>
    refine ⟨0, Nat.zero_le _, rfl, rfl, ?_, HE1.out, HB1.out⟩
    have h := H1R.out
    exact ⟨fun t ht => by rw [if_neg (by omega)]; exact h.node t ht, h.inj, h.nxD, h.pvD, h.pn, h.np⟩
  case round =>
    obtain ⟨j, hj, rfl, rfl, hring, hev, hbl⟩ := hrel
    have HRI := Lib.hid hring
    have HEV := Lib.hid hev
    have HBL := Lib.hid hbl
    clear hring hev hbl
    by_cases hlt : j < N
    · have hjN : j < N + 1 := by omega
      obtain ⟨a1, a2, hh, _⟩ := HRI.out.node j hjN
      have c2 : wr.cell? ⟨B + j, 2, none⟩ = some _ := cell_of_heap hh
      have f2 : wr.frozen? ⟨B + j, 2, none⟩ = false := frozen_of_heap hh
      have R5 := Lib.hid (HRI.out.setVal hjN (I (j : Int))).1
      have B5 := Lib.hid (bl_set HBL.out (p := ⟨B + j, 2, none⟩) (HGE.out _ ⟨j, hjN, rfl⟩) (I (j : Int)))
      have E5 : Hid ((wr.setCell ⟨B + j, 2, none⟩ (I (j : Int))).ownsRow w0.heap.size 47 1 u5 j ((List.range j).map fun i => P (B + i))) :=
        own_keep HEV.out fun g hg => Below.heap_setCell _ _ _ _ (fun e => HRI.out.ne_own HEV.out (by decide) j hjN (hg.trans (congrArg some e)))
      clear hh
      simp at c2
      go_wp2_with (at_builtin; go_must (refine wpList_push (wr.setCell ⟨B + j, 2, none⟩ (I (j : Int))) rfl (.tmp 28) (.tmp 30) _ rfl w0.heap.size 47 i0 _ 8 Try.underlying46 hi hz0 hz1 hz2 rfl u5 j _ rfl E5.out (P (B + j)) rfl rfl (by simp) (by omega) (by omega) B5.out.size ?_); intro v1 w4 hown1 hchg1 hloc1)
      have HR5 := Lib.hid (R5.out.chg hchg1 (fun i hi => R5.out.ne_own E5.out (by decide) i hi))
      have HE5 := Lib.hid hown1
      have HB5 := Lib.hid (bl_own B5.out E5.out hchg1)
      clear hown1 hchg1 hloc1 c2 f2 R5 B5 E5
      refine (next_ring HR5.out hjN).mono ?_
      rintro e w6 ⟨rfl, k6, _⟩
      have hnx : nxc (N + 1) j = j + 1 := by unfold nxc; rw [if_pos (by omega)]
      rw [hnx]
      have HE6 := Lib.hid (k6.own HR5.out HE5.out (by decide))
      have HR6 := Lib.hid k6.ring
      have HB6 := Lib.hid (bl_chg HB5.out k6.chg HGE.out)
      clear k6 hnx
      go_wp2
      go_roundw
      case rel =>
        refine ⟨j + 1, by omega, by go_num, rfl, ?_, by rw [List.range_succ, List.map_append]; exact HE6.out, HB6.out⟩
        have h := HR6.out
        refine ⟨fun t ht => ?_, h.inj, h.nxD, h.pvD, h.pn, h.np⟩
        have h2 := h.node t ht
        have e : (if t = j then I (j : Int) else if t < j then I (t : Int) else .nilIface) = if t < j + 1 then I (t : Int) else .nilIface := by
          by_cases h3 : t = j
          · subst h3; rw [if_pos rfl, if_pos (by omega)]
          · rw [if_neg h3]
            by_cases h4 : t < j
            · rw [if_pos h4, if_pos (by omega)]
            · rw [if_neg h4, if_neg (by omega)]
        simp only [e] at h2
        exact h2
      case measure => simp [intOf]; omega
    · obtain rfl : j = N := by omega
      have hjN : j < j + 1 := by omega
      obtain ⟨a1, a2, hh, _⟩ := HRI.out.node j hjN
      have c2 : wr.cell? ⟨B + j, 2, none⟩ = some _ := cell_of_heap hh
      have f2 : wr.frozen? ⟨B + j, 2, none⟩ = false := frozen_of_heap hh
      have hpl : PlayR w0 (wr.setCell ⟨B + j, 2, none⟩ (I (j : Int))) B j u5 (nxc (j + 1)) (pvc (j + 1)) (nums j) (List.range j) := by
        refine ⟨?_, ⟨path_root j, nums_cst j, nums_ord j⟩, HGB.out, bl_set HBL.out (p := ⟨B + j, 2, none⟩) (HGE.out _ ⟨j, hjN, rfl⟩) (I (j : Int)),
          own_keep HEV.out fun g hg => Below.heap_setCell _ _ _ _ (fun e => HRI.out.ne_own HEV.out (by decide) j hjN (hg.trans (congrArg some e)))⟩
        have h := (HRI.out.setVal hjN (I (j : Int))).1
        refine ⟨fun t ht => ?_, h.inj, h.nxD, h.pvD, h.pn, h.np⟩
        have h2 := h.node t ht
        have e : (if t = j then I (j : Int) else if t < j then I (t : Int) else .nilIface) = I (t : Int) := by
          by_cases h3 : t = j
          · subst h3; rw [if_pos rfl]
          · rw [if_neg h3, if_pos (by omega)]
        simp only [e] at h2
        exact h2
      obtain ⟨A1, c1, rfl, hc1, hm1, _⟩ := own_open HEV.out
      have HPL := Lib.hid hpl
      clear hpl hh HRI HEV HBL
      simp at c2
      unfold maxLen at hm1
      go_wp2
      clear c2 f2
      obtain ⟨W2, hW2⟩ : ∃ W2, W2 = wr.setCell ⟨B + j, 2, none⟩ (I (j : Int)) := ⟨_, rfl⟩
      rw [← hW2] at HPL ⊢
      clear hW2
      go_loopw [9, 10, 11, 41] (fun _ _ _ i wr => ∃ k : Nat, k ≤ ms.length ∧ i = .int .i64 k ∧ ∃ nx pv L, PlayR w0 wr B j (.slice A1 j c1) nx pv ((ms.take k).foldl (playStep j) (nums j)) L) (fun _ _ _ i _ => ms.length - (intOf i).toNat)
      case atStart => exact ⟨0, Nat.zero_le _, rfl, _, _, _, HPL.out⟩
      case round =>
        clear HPL
        obtain ⟨k, hk, rfl, nx, pv, L, hpl⟩ := hrel
        have HPL := Lib.hid hpl
        clear hpl
        by_cases hlt : k < ms.length
        · obtain ⟨b, off, rfl, hc1', hc2', hc3'⟩ := HV.out k hlt
          have r1 := (HPL.out.bl.cell (World.block_lt_of_cell? _ _ hc1')).trans hc1'
          have r2 := (HPL.out.bl.cell (World.block_lt_of_cell? _ _ hc2')).trans hc2'
          have r3 := (HPL.out.bl.cell (World.block_lt_of_cell? _ _ hc3')).trans hc3'
          have HF := Lib.hid (fold_take (n := j) ms (nums j) k hlt)
          clear hc1' hc2' hc3'
          generalize (ms.take k).foldl (playStep j) (nums j) = xs at *
          generalize ms[k] = m at *
          obtain ⟨op, em, mm⟩ := m
          rcases Nat.eq_zero_or_pos j with hN0 | hN0
          · subst hN0
            have hx : xs = [] := List.eq_nil_of_length_eq_zero HPL.out.path.ord.len
            have HPP : Hid (playOf a ms = xs) := by
              show _ = _
              rw [HP.out, hx]; rfl
            clear hx
            generalize xs = ys at *
            go_wp2_with fail
            refine (HPL.out.around (bl_alloc (bl_refl _) _) (by omega)).mono ?_
            rintro e w5 ⟨v5, rfl, o5, b5⟩
            obtain ⟨A5, c5, rfl, hc5, hm5, hA5⟩ := own_open o5
            obtain ⟨g5, rfl, _⟩ := hA5 (by simp)
            have O5 := Lib.hid o5
            have B5 := Lib.hid b5
            clear o5 b5 hA5
            rw [List.length_cons] at *
            unfold maxLen at hm5
            by_cases h5 : c5 = 1
            · subst h5
              obtain rfl : ys = [] := List.eq_nil_of_length_eq_zero (by omega)
              go_wp2
              go_ret
              exact ⟨_, rfl, by rw [HPP.out]; exact OwnX.of_own (off := 0) O5.out rfl, B5.out⟩
            · go_wp2
              go_ret
              exact ⟨_, rfl, by rw [HPP.out]; exact OwnX.of_own O5.out (by rw [if_neg h5]), B5.out⟩
          · have hn0 : ((j : Int) == 0) = false := by rw [beq_eq_false_iff_ne]; omega
            have l1 := ix_lt em hN0
            have l2 := ix_lt mm hN0
            obtain ⟨g1, rfl, e1⟩ := HPL.out.elem_cell l1
            obtain ⟨g2, hg2, e2⟩ := HPL.out.elem_cell l2
            simp at hg2
            subst hg2
            have hgs := World.block_lt_of_cell? _ _ e1
            simp only at hgs
            go_wp2
            go_quiet ((go_at_call 15; exact Calls.quiet_of_same (at_ix _ j _ hN0 (by omega))))
            go_wp2_with fail
            obtain ⟨W, hW⟩ : ∃ W, W = (wr.alloc (.cells #[.int .i64 op, .int .i64 em, .int .i64 mm] 27)).drewN nq := ⟨_, rfl⟩
            rw [← hW]
            have hbW : Bl wr W := by rw [hW]; exact bl_drewN (bl_alloc (bl_refl _) _) _
            have HPW := Lib.hid (HPL.out.kept hbW (Kept.refl (HPL.out.ring.bl hbW)) HPL.out.path)
            clear hW hbW r1 r2 r3 e1 e2 hgs HPL
            have l4 := ix_lt op (n := 4) (by omega)
            refine (at_ix op 4 _ (by omega) (by omega)).mono ?_
            rintro e w5 ⟨rfl, rfl⟩
            have HAT := Lib.hid (HPW.out.path.at l1)
            have HOF := Lib.hid (HPW.out.path.ord.step hN0 (op, em, mm))
            have HS0 := Lib.hid (fun h => step_front (n := j) xs (op, em, mm) h)
            have HS1 := Lib.hid (fun h => step_back (n := j) xs (op, em, mm) h)
            have HS2 := Lib.hid (fun h h' => step_after (n := j) xs (op, em, mm) h h')
            have HS3 := Lib.hid (fun h h' => step_before (n := j) xs (op, em, mm) h h')
            have HSN := Lib.hid (fun h h' => step_none (n := j) xs (op, em, mm) h h')
            simp only at HS0 HS1 HS2 HS3 HSN
            generalize hQ : ix op 4 = Q at *
            clear hQ
            generalize ix em j = E at *
            generalize ix mm j = M at *
            generalize playStep j xs (op, em, mm) = ys at *
            rcases (by omega : Q = 0 ∨ Q = 1 ∨ Q = 2 ∨ Q = 3) with hq | hq | hq | hq
            · have HE := Lib.hid (HS0.out hq)
              subst hq
              go_wp2_with fail
              refine (put_ring HPW.out.ring HPW.out.path.path HPW.out.path.nodup HPW.out.path.lt HAT.out (j := 0) rfl).mono ?_
              rintro e w6 ⟨rfl, nx', pv', k6, p6⟩
              have H3 := Lib.hid (HPW.out.kept (bl_refl _) k6 (ys := ys) ⟨p6, by rw [HE.out]; exact (HPW.out.path.ins _ _ _).symm, HOF.out⟩)
              clear k6 p6
              go_wp2
              go_roundw
              case rel => exact ⟨k + 1, by omega, by go_num, by rw [HF.out]; exact ⟨_, _, _, H3.out⟩⟩
              case measure => simp [intOf]; omega
            · have HE := Lib.hid (HS1.out hq)
              have HBK := Lib.hid (HPW.out.path.back HPW.out.ring.pn l1)
              subst hq
              go_wp2_with fail
              refine (prev_ring HPW.out.ring (i := j) (by omega)).mono ?_
              rintro e w6 ⟨rfl, k6, _⟩
              have HPW6 := Lib.hid (HPW.out.kept (bl_refl _) k6 HPW.out.path)
              clear HPW k6
              have HPW := HPW6
              clear HPW6
              rcases HBK.out with ⟨hb1, hb2⟩ | hb1
              · have HE2 : Hid (ys = xs) := HE.out.trans hb2
                have H3 : Hid (PlayR w0 w6 B j (.slice (some ⟨g1, 0, none⟩) j c1) nx pv ys L) := by rw [HE2.out]; exact HPW.out
                rw [hb1]
                go_wp2_with fail
                refine (put_same _ _).mono ?_
                rintro e w6 ⟨rfl, rfl⟩
                go_wp2
                go_roundw
                case rel => exact ⟨k + 1, by omega, by go_num, by rw [HF.out]; exact ⟨_, _, _, H3.out⟩⟩
                case measure => simp [intOf]; omega
              · have HB1 := Lib.hid hb1
                clear hb1
                go_wp2_with fail
                refine (put_ring HPW.out.ring HPW.out.path.path HPW.out.path.nodup HPW.out.path.lt HAT.out HB1.out).mono ?_
                rintro e w6 ⟨rfl, nx', pv', k6, p6⟩
                have H3 := Lib.hid (HPW.out.kept (bl_refl _) k6 (ys := ys) ⟨p6, by rw [HE.out]; exact (HPW.out.path.ins _ _ _).symm, HOF.out⟩)
                clear k6 p6
                go_wp2
                go_roundw
                case rel => exact ⟨k + 1, by omega, by go_num, by rw [HF.out]; exact ⟨_, _, _, H3.out⟩⟩
                case measure => simp [intOf]; omega
            · by_cases hem : E = M
              · have HE := Lib.hid (HSN.out (by omega) hem)
                subst hq hem
                have H3 : Hid (PlayR w0 w5 B j (.slice (some ⟨g1, 0, none⟩) j c1) nx pv ys L) := by rw [HE.out]; exact HPW.out
                go_wp2_with fail
                refine (put_same _ _).mono ?_
                rintro e w6 ⟨rfl, rfl⟩
                go_wp2
                go_roundw
                case rel => exact ⟨k + 1, by omega, by go_num, by rw [HF.out]; exact ⟨_, _, _, H3.out⟩⟩
                case measure => simp [intOf]; omega
              · have HE := Lib.hid (HS2.out hq hem)
                have HB1 : Hid ((j :: L.eraseIdx (xs.idxOf (E : Int)))[(xs.eraseIdx (xs.idxOf (E : Int))).idxOf (M : Int) + 1]? = some M) := HPW.out.path.mk_at l1 l2 hem
                subst hq
                go_wp2_with fail
                refine (put_ring HPW.out.ring HPW.out.path.path HPW.out.path.nodup HPW.out.path.lt HAT.out HB1.out).mono ?_
                rintro e w6 ⟨rfl, nx', pv', k6, p6⟩
                have H3 := Lib.hid (HPW.out.kept (bl_refl _) k6 (ys := ys) ⟨p6, by rw [HE.out]; exact (HPW.out.path.ins _ _ _).symm, HOF.out⟩)
                clear k6 p6
                go_wp2
                go_roundw
                case rel => exact ⟨k + 1, by omega, by go_num, by rw [HF.out]; exact ⟨_, _, _, H3.out⟩⟩
                case measure => simp [intOf]; omega
            · by_cases hem : E = M
              · have HE := Lib.hid (HSN.out (by omega) hem)
                subst hq hem
                have hsm := run_neq_same (B + E) w5
                have H3 : Hid (PlayR w0 w5 B j (.slice (some ⟨g1, 0, none⟩) j c1) nx pv ys L) := by rw [HE.out]; exact HPW.out
                go_wp2
                go_roundw
                case rel => exact ⟨k + 1, by omega, by go_num, by rw [HF.out]; exact ⟨_, _, _, H3.out⟩⟩
                case measure => simp [intOf]; omega
              · have HE := Lib.hid (HS3.out hq hem)
                have HBF := Lib.hid (HPW.out.path.before HPW.out.ring.pn l1 l2 hem)
                have hsm := HPW.out.ring.neq (i := E) (j := M) (by omega) (by omega) hem
                subst hq
                go_wp2_with fail
                refine (prev_ring HPW.out.ring (i := M) (by omega)).mono ?_
                rintro e w6 ⟨rfl, k6, _⟩
                have HPW6 := Lib.hid (HPW.out.kept (bl_refl _) k6 HPW.out.path)
                clear HPW k6
                have HPW := HPW6
                clear HPW6
                clear hsm
                rcases HBF.out with ⟨hb1, hb2⟩ | hb1
                · have HE2 : Hid (ys = xs) := HE.out.trans hb2
                  have H3 : Hid (PlayR w0 w6 B j (.slice (some ⟨g1, 0, none⟩) j c1) nx pv ys L) := by rw [HE2.out]; exact HPW.out
                  rw [hb1]
                  go_wp2_with fail
                  refine (put_same _ _).mono ?_
                  rintro e w6 ⟨rfl, rfl⟩
                  go_wp2
                  go_roundw
                  case rel => exact ⟨k + 1, by omega, by go_num, by rw [HF.out]; exact ⟨_, _, _, H3.out⟩⟩
                  case measure => simp [intOf]; omega
                · have HB1 := Lib.hid hb1
                  clear hb1
                  go_wp2_with fail
                  refine (put_ring HPW.out.ring HPW.out.path.path HPW.out.path.nodup HPW.out.path.lt HAT.out HB1.out).mono ?_
                  rintro e w6 ⟨rfl, nx', pv', k6, p6⟩
                  have H3 := Lib.hid (HPW.out.kept (bl_refl _) k6 (ys := ys) ⟨p6, by rw [HE.out]; exact (HPW.out.path.ins _ _ _).symm, HOF.out⟩)
                  clear k6 p6
                  go_wp2
                  go_roundw
                  case rel => exact ⟨k + 1, by omega, by go_num, by rw [HF.out]; exact ⟨_, _, _, H3.out⟩⟩
                  case measure => simp [intOf]; omega
        · obtain rfl : k = ms.length := by omega
          rw [List.take_length] at HPL
          have HPP : Hid (playOf a ms = ms.foldl (playStep j) (nums j)) := by
            show _ = _
            rw [HP.out]
            unfold play
            by_cases h0 : j = 0
            · rw [if_pos h0]
              have := HPL.out.path.ord.len
              rw [h0] at this
              subst h0
              exact (List.eq_nil_of_length_eq_zero this).symm
            · rw [if_neg h0]
          generalize ms.foldl (playStep j) (nums j) = ys at *
          go_wp2_with fail
          refine (HPL.out.around (bl_refl _) (by omega)).mono ?_
          rintro e w5 ⟨v5, rfl, o5, b5⟩
          obtain ⟨A5, c5, rfl, hc5, hm5, hA5⟩ := own_open o5
          obtain ⟨g5, rfl, _⟩ := hA5 (by simp)
          have O5 := Lib.hid o5
          have B5 := Lib.hid b5
          clear o5 b5 hA5
          rw [List.length_cons] at *
          unfold maxLen at hm5
          by_cases h5 : c5 = 1
          · subst h5
            obtain rfl : ys = [] := List.eq_nil_of_length_eq_zero (by omega)
            go_wp2
            go_ret
            exact ⟨_, rfl, by rw [HPP.out]; exact OwnX.of_own (off := 0) O5.out rfl, B5.out⟩
          · go_wp2
            go_ret
            exact ⟨_, rfl, by rw [HPP.out]; exact OwnX.of_own O5.out (by rw [if_neg h5]), B5.out⟩

end Go.Proofs.Ythgghafndabpfaa
