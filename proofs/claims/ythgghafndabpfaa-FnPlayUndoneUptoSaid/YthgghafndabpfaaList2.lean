/- The contracts of container/list, further: New, PushBack, PushFront, InsertAfter, Front, Back, Len, Next, Prev. -/
import Derived.Test.YthgghafndabpfaaList
namespace Go.Proofs.Ythgghafndabpfaa
open Go.RowKit

/-- A list at block l with the elements es, which hold the values vs. -/
def LC (w : World) (l : Nat) (es : List Nat) (vs : List Value) : Prop := ∃ nx pv val, LSt w l es nx pv val ∧ es.map val = vs

section
variable {w w' : World} {l : Nat} {es : List Nat} {nx pv : Nat → Nat} {val : Nat → Value} {vs : List Value}

theorem LC.len_eq (h : LC w l es vs) : es.length = vs.length := by
  obtain ⟨nx, pv, val, _, e⟩ := h; rw [← e]; simp
theorem LC.bl (h : LC w l es vs) (hb : Bl w w') : LC w' l es vs := by
  obtain ⟨nx, pv, val, hs, e⟩ := h; exact ⟨nx, pv, val, hs.bl hb, e⟩
theorem LC.chg {S : Nat → Prop} (h : LC w l es vs) (hb : Chg S w w') (hs : ∀ b ∈ l :: es, ¬ S b) : LC w' l es vs := by
  obtain ⟨nx, pv, val, hst, e⟩ := h; exact ⟨nx, pv, val, hst.chg hb hs, e⟩
theorem LC.lt (h : LC w l es vs) {b : Nat} (hb : b ∈ l :: es) : b < w.heap.size := by
  obtain ⟨nx, pv, val, hst, e⟩ := h; exact hst.lt hb
theorem LC.nodup (h : LC w l es vs) : (l :: es).Nodup := by
  obtain ⟨nx, pv, val, hst, e⟩ := h; exact hst.nodup
/-- A slice of another element type lies elsewhere. -/
theorem LC.ne_own {base : Nat} {e : TypeId} {sz n : Nat} {v : Value} {cs : List Value} (h : LC w l es vs) (hv : w.ownsRow base e sz v n cs) (h1 : e ≠ 57) (h2 : e ≠ 55) : ∀ b ∈ l :: es, v.ownBlock ≠ some b := by
  obtain ⟨nx, pv, val, hst, _⟩ := h
  intro b hb hvb
  rcases hv.2 with ⟨rfl, _⟩ | ⟨g1, cap, cur, rfl, _, hg, _⟩
  · simp [Value.ownBlock] at hvb
  · simp [Value.ownBlock] at hvb
    subst hvb
    rcases List.mem_cons.1 hb with rfl | hb
    · obtain ⟨cs, ec⟩ := hst.head
      rw [ec] at hg; simp at hg; exact h1 hg.2.symm
    · obtain ⟨cs, ec⟩ := hst.elem g1 hb
      rw [ec] at hg; simp at hg; exact h2 hg.2.symm
theorem LC.own {base : Nat} {e : TypeId} {sz n : Nat} {v : Value} {cs : List Value} (h : LC w l es vs) (hc : Chg (· ∈ l :: es) w w') (hv : w.ownsRow base e sz v n cs) (h1 : e ≠ 57) (h2 : e ≠ 55) : w'.ownsRow base e sz v n cs :=
  own_chg hv hc fun g hg hb => h.ne_own hv h1 h2 g hb hg

set_option maxRecDepth 100000 in
set_option maxHeartbeats 400000 in
theorem linit (b : Nat) (x0 x1 x4 : Value) (w : World) (h : w.heap[b]? = some (.cells #[x0, x1, .pointer none, .nilIface, x4] 57 (0, 0))) :
    Calls Try.prog 29 #[P b] w fun e w' => e = .returned (P b) ∧ ((w.setCell ⟨b, 0, none⟩ (P b)).setCell ⟨b, 1, none⟩ (P b)).setCell ⟨b, 4, none⟩ (.int .i64 0) = w' := by
  have c0 : w.cell? ⟨b, 0, none⟩ = some x0 := by rw [cell_of_heap h]; rfl
  have c1 : w.cell? ⟨b, 1, none⟩ = some x1 := by rw [cell_of_heap h]; rfl
  have c4 : w.cell? ⟨b, 4, none⟩ = some x4 := by rw [cell_of_heap h]; rfl
  have f0 : ∀ i, w.frozen? ⟨b, i, none⟩ = false := fun i => frozen_of_heap h
  clear h
  go_enter Try.func29, Try.ntmps29
  go_wp2
  go_ret
  exact ⟨rfl, rfl⟩

/-- New: an empty list at a new block. -/
def NewList (w w' : World) : Prop := LC w' w.heap.size [] [] ∧ Bl w w' ∧ w'.heap.size = w.heap.size + 1

set_option maxRecDepth 100000 in
set_option maxHeartbeats 400000 in
theorem lnew_any (w : World) : Calls Try.prog 16 #[] w fun e w' => e = .returned (P w.heap.size) ∧ NewList w w' := by
  go_enter Try.func16, Try.ntmps16
  go_wp2_with fail
  refine (linit w.heap.size _ _ _ _ (heap_alloc_new w _)).mono ?_
  rintro e w1 ⟨rfl, hw⟩
  have HW := Lib.hid hw
  clear hw
  go_wp2
  go_ret
  refine ⟨rfl, ?_⟩
  have e := HW.out
  have h0 := heap_alloc_new w (.cells #[.pointer none, .pointer none, .pointer none, .nilIface, .int .i64 0] 57)
  have h3 : w1.heap[w.heap.size]? = some (.cells #[P w.heap.size, P w.heap.size, .pointer none, .nilIface, .int .i64 0] 57 (0, 0)) := by
    rw [← e]
    rw [heap_setCell_same (heap_setCell_same (heap_setCell_same h0 _) _)]
    simp
  refine ⟨⟨fun _ => w.heap.size, fun _ => w.heap.size, fun _ => .nilIface, ⟨fun b hb => ?_, fun b hb => by simp at hb, ?_, ⟨_, h3⟩, fun b hb => by simp at hb, ⟨rfl, rfl⟩, by simp, fun b hb => ?_, fun b hb => ?_⟩, rfl⟩, ?_, ?_⟩
  · simp at hb; subst hb
    rw [cell_of_heap h3, cell_of_heap h3]; exact ⟨rfl, rfl⟩
  · rw [cell_of_heap h3]; rfl
  · simp at hb; exact hb.symm
  · simp at hb; exact hb.symm
  · rw [← e]; exact bl_set (bl_set (bl_set (bl_alloc (bl_refl w) _) (by simp) _) (by simp) _) (by simp) _
  · rw [← e]; simp

set_option maxRecDepth 100000 in
set_option maxHeartbeats 400000 in
theorem lazyInit_st (h : LSt w l es nx pv val) : Calls Try.prog 30 #[P l] w fun e w' => e = .returned (.tuple #[]) ∧ w = w' := by
  have c0 := (h.lk l (by simp)).1
  clear h
  go_enter Try.func30, Try.ntmps30
  go_wp2
  go_end0
  exact ⟨rfl, rfl⟩

set_option maxRecDepth 100000 in
set_option maxHeartbeats 400000 in
theorem insertValue_st (h : LSt w l es nx pv val) (t : TypeId) (u : Value) {a : Nat} (A B : List Nat) (hs : l :: es = A ++ a :: B) (es' : List Nat) (hs' : l :: es' = A ++ a :: w.heap.size :: B) (hl : es.length ≤ 4611686018427387904) :
    Calls Try.prog 31 #[P l, .iface t u, P a] w fun r w' => r = .returned (P w.heap.size) ∧ LSt w' l es' (upd (upd nx a w.heap.size) w.heap.size (nx a)) (upd (upd pv (nx a) w.heap.size) w.heap.size a) (fun b => if b = w.heap.size then .iface t u else val b) ∧ Chg (· ∈ l :: es) w w' := by
  have HS := Lib.hid h
  have hbl : Bl w (w.alloc (.cells #[.pointer none, .pointer none, .pointer none, .iface t u] 55)) := bl_alloc (bl_refl _) _
  have h1 := h.bl hbl
  have hne : w.heap.size ∉ l :: es := fun e => by have := h.lt e; omega
  have he := heap_alloc_new w (.cells #[.pointer none, .pointer none, .pointer none, .iface t u] 55)
  have ha : a ∈ l :: es := by rw [hs]; simp
  have H2 := Lib.hid (insW_st h1 he hne A B a hs es' hs')
  have HC := Lib.hid (insert_walk h1 he hne ha hl)
  have HX : Hid (Chg (· ∈ l :: es) w (insW (w.alloc (.cells #[.pointer none, .pointer none, .pointer none, .iface t u] 55)) l w.heap.size a (nx a) ((es.length : Int) + 1))) := by
    have hn := h.nxD ha
    have h0 : Chg (fun b => b ∈ l :: es ∨ b = w.heap.size) w (insW (w.alloc (.cells #[.pointer none, .pointer none, .pointer none, .iface t u] 55)) l w.heap.size a (nx a) ((es.length : Int) + 1)) :=
      (((((((chg_of_bl hbl _).setCell (.inr rfl) _).setCell (.inr rfl) _).setCell (.inl ha) _).setCell (.inl hn) _).setCell (.inr rfl) _).setCell (.inl (by simp)) _)
    exact h0.mono fun k hk hlt => hk.resolve_right (by omega)
  clear h h1 hne he ha hs hs' hbl
  go_enter Try.func31, Try.ntmps31
  go_wp2_with fail
  refine HC.out.mono ?_
  rintro e w2 ⟨rfl, hw⟩
  have HW := Lib.hid hw
  clear hw
  go_wp2
  go_ret
  exact ⟨rfl, HW.out ▸ H2.out, HW.out ▸ HX.out⟩

theorem map_upd {es : List Nat} {b : Nat} (hb : b ∉ es) (v : Value) (val : Nat → Value) : es.map (fun x => if x = b then v else val x) = es.map val := by
  apply List.map_congr_left
  intro x hx
  rw [if_neg (fun e : x = b => hb (e ▸ hx))]

/-- The last one of all, the head among them. -/
theorem LSt.pv_head (h : LSt w l es nx pv val) : pv l = (l :: es)[es.length] := by
  have h1 := h.path.get_last (by simp)
  have h2 := h.pn _ (List.getElem_mem (l := l :: es) (n := (l :: es).length - 1) (by simp))
  rw [h1] at h2
  exact h2
theorem LSt.nx_head (h : LSt w l es nx pv val) (h0 : 0 < es.length) : nx l = es[0] := h.path.get_succ 0 (by simpa using h0)

theorem split_last (l : Nat) (es : List Nat) : l :: es = (l :: es).take es.length ++ (l :: es)[es.length] :: [] := by
  have h := List.take_append_drop es.length (l :: es)
  rw [List.drop_eq_getElem_cons (by simp)] at h
  rw [List.drop_eq_nil_of_le (by simp)] at h
  exact h.symm

theorem split_last_snoc (l : Nat) (es : List Nat) (b : Nat) : l :: (es ++ [b]) = (l :: es).take es.length ++ (l :: es)[es.length] :: b :: [] := by
  show (l :: es) ++ [b] = _
  exact (congrArg (· ++ [b]) (split_last l es)).trans (List.append_assoc _ _ _)

set_option maxRecDepth 100000 in
set_option maxHeartbeats 400000 in
theorem pushBack_lc (h : LC w l es vs) (t : TypeId) (u : Value) (hl : es.length ≤ 4611686018427387904) :
    Calls Try.prog 17 #[P l, .iface t u] w fun r w' => r = .returned (P w.heap.size) ∧ LC w' l (es ++ [w.heap.size]) (vs ++ [.iface t u]) ∧ Chg (· ∈ l :: es) w w' := by
  obtain ⟨nx, pv, val, hst, hv⟩ := h
  have HS := Lib.hid hst
  have HV := Lib.hid hv
  have hne : w.heap.size ∉ es := fun e => by have := hst.lt (b := w.heap.size) (by simp [e]); omega
  have c1 := (hst.lk l (by simp)).2
  rw [hst.pv_head] at c1
  clear hst hv
  go_enter Try.func17, Try.ntmps17
  go_wp2_with fail
  refine (lazyInit_st HS.out).mono ?_
  rintro e w1 ⟨rfl, rfl⟩
  go_wp2_with fail
  refine (insertValue_st HS.out t u _ _ (split_last l es) (es ++ [w.heap.size]) (split_last_snoc l es _) hl).mono ?_
  rintro e w2 ⟨rfl, h2, hc⟩
  have H2 := Lib.hid h2
  have HC := Lib.hid hc
  clear h2 hc
  go_wp2
  go_ret
  refine ⟨rfl, ⟨_, _, _, H2.out, ?_⟩, HC.out⟩
  rw [List.map_append, map_upd hne, HV.out]
  simp


theorem split_at {l : Nat} {es : List Nat} {i : Nat} (hi : i < es.length) : l :: es = (l :: es.take i) ++ es[i] :: es.drop (i + 1) := by
  rw [List.cons_append, ← List.drop_eq_getElem_cons hi, List.take_append_drop]



set_option maxRecDepth 100000 in
set_option maxHeartbeats 400000 in
theorem front_none (h : LC w l [] vs) : Calls Try.prog 33 #[P l] w fun r w' => r = .returned (.pointer none) ∧ w = w' := by
  obtain ⟨nx, pv, val, hst, hv⟩ := h
  have c4 := hst.len
  simp only [List.length_nil] at c4
  clear hst hv
  go_enter Try.func33, Try.ntmps33
  go_wp2
  go_ret
  exact ⟨rfl, rfl⟩
set_option maxRecDepth 100000 in
set_option maxHeartbeats 400000 in
theorem front_some (h : LC w l es vs) (h0 : 0 < es.length) : Calls Try.prog 33 #[P l] w fun r w' => r = .returned (P es[0]) ∧ w = w' := by
  obtain ⟨nx, pv, val, hst, hv⟩ := h
  have c4 := hst.len
  have c0 := (hst.lk l (by simp)).1
  rw [hst.nx_head h0] at c0
  have hb : ((es.length : Int) == 0) = false := by rw [beq_eq_false_iff_ne]; omega
  clear hst hv
  generalize es[0] = a at *
  go_enter Try.func33, Try.ntmps33
  go_wp2
  go_ret
  exact ⟨rfl, rfl⟩


theorem LSt.neq_head (h : LSt w l es nx pv val) {b : Nat} (hb : b ∈ es) : (binOp .neq 40 (P b) (P l)).run Try.prog w = .ok (.bool true) w := by
  obtain ⟨jj, hte, hsz⟩ := elemSize
  obtain ⟨cs, t, e1⟩ := h.blk (b := b) (by simp [hb])
  obtain ⟨cs2, t2, e2⟩ := h.blk (b := l) (by simp)
  exact (run_equal_other Try.underlying40 hte hsz (fun e : b = l => (List.nodup_cons.1 h.nodup).1 (e ▸ hb)) e1 e2).1
theorem neq_self (b : Nat) (w : World) : (binOp .neq 40 (P b) (P b)).run Try.prog w = .ok (.bool false) w := by
  obtain ⟨jj, hte, _⟩ := elemSize
  exact (run_equal_same b w Try.underlying40 hte).1

set_option maxRecDepth 100000 in
set_option maxHeartbeats 400000 in
theorem enext_some (h : LC w l es vs) {i : Nat} (hi : i + 1 < es.length) : Calls Try.prog 34 #[P (es[i]'(by omega))] w fun r w' => r = .returned (P es[i + 1]) ∧ w = w' := by
  obtain ⟨nx, pv, val, hst, hv⟩ := h
  have hm : es[i]'(by omega) ∈ es := List.getElem_mem _
  have hm2 : es[i + 1] ∈ es := List.getElem_mem _
  have c0 := (hst.lk (es[i]'(by omega)) (by simp)).1
  have e : nx (es[i]'(by omega)) = es[i + 1] := hst.path.get_succ (i + 1) (by simpa using hi)
  rw [e] at c0
  have c2 := (hst.own _ hm).1
  have hne := hst.neq_head hm2
  clear hst hv hm hm2 e
  generalize es[i]'(by omega) = a at *
  generalize es[i + 1] = b at *
  go_enter Try.func34, Try.ntmps34
  go_wp2
  go_ret
  exact ⟨rfl, rfl⟩
set_option maxRecDepth 100000 in
set_option maxHeartbeats 400000 in
theorem enext_none (h : LC w l es vs) (h0 : 0 < es.length) : Calls Try.prog 34 #[P (es[es.length - 1]'(by omega))] w fun r w' => r = .returned (.pointer none) ∧ w = w' := by
  obtain ⟨nx, pv, val, hst, hv⟩ := h
  have hm : es[es.length - 1]'(by omega) ∈ es := List.getElem_mem _
  have c0 := (hst.lk (es[es.length - 1]'(by omega)) (by simp)).1
  have e : nx (es[es.length - 1]'(by omega)) = l := by
    have h1 := hst.path.get_last (by simp)
    obtain ⟨n, hn⟩ : ∃ n, es.length = n + 1 := ⟨es.length - 1, by omega⟩
    simp only [List.length_cons, hn, Nat.add_sub_cancel, List.getElem_cons_succ] at h1
    simp only [hn, Nat.add_sub_cancel]
    exact h1
  rw [e] at c0
  have c2 := (hst.own _ hm).1
  have hne := neq_self l w
  clear hst hv hm e
  generalize es[es.length - 1]'(by omega) = a at *
  go_enter Try.func34, Try.ntmps34
  go_wp2
  go_ret
  exact ⟨rfl, rfl⟩
end

end Go.Proofs.Ythgghafndabpfaa
