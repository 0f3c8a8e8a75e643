/- The contracts of container/list, further: remove, move, and what is made of them. -/
import Derived.Test.YthgghafndabpfaaListOf
namespace Go.Proofs.Ythgghafndabpfaa
open Go.RowKit

section
variable {w w' : World} {l : Nat} {es : List Nat} {nx pv : Nat → Nat} {val : Nat → Value} {vs : List Value}

/-- The pointers alone: a circle through the head and the elements, both ways. -/
structure Lk (l : Nat) (es : List Nat) (nx pv : Nat → Nat) : Prop where
  path : Path nx l (l :: es) l
  nodup : (l :: es).Nodup
  pn : ∀ b ∈ l :: es, pv (nx b) = b
  np : ∀ b ∈ l :: es, nx (pv b) = b
theorem LSt.pure (h : LSt w l es nx pv val) : Lk l es nx pv := ⟨h.path, h.nodup, h.pn, h.np⟩
theorem Lk.nxD (h : Lk l es nx pv) {b : Nat} (hb : b ∈ l :: es) : nx b ∈ l :: es := by
  obtain ⟨j, hj, e⟩ := List.getElem_of_mem hb
  by_cases hj1 : j + 1 < (l :: es).length
  · rw [← e, h.path.get_succ j hj1]; exact List.getElem_mem _
  · have hlast := h.path.get_last (by simp)
    have ej : j = (l :: es).length - 1 := by omega
    subst ej
    rw [← e, hlast]; simp
theorem Lk.pvD (h : Lk l es nx pv) {b : Nat} (hb : b ∈ l :: es) : pv b ∈ l :: es := by
  obtain ⟨j, hj, e⟩ := List.getElem_of_mem hb
  cases j with
  | zero =>
    have hlast := h.path.get_last (by simp)
    have hm : (l :: es)[(l :: es).length - 1]'(by simp) ∈ l :: es := List.getElem_mem _
    have := h.pn _ hm
    rw [hlast] at this
    have e' : l = b := e
    rw [← e', this]; exact hm
  | succ j =>
    have h1 := h.path.get_succ j hj
    have hm : (l :: es)[j]'(by omega) ∈ l :: es := List.getElem_mem _
    have := h.pn _ hm
    rw [h1, e] at this
    rw [this]; exact hm

/-- Taking e out: the pointers of the others. -/
theorem Lk.out_path (h : Lk l es nx pv) {i : Nat} (hi : i < es.length) : Path (upd nx (pv es[i]) (nx es[i])) l (l :: es.eraseIdx i) l := by
  have hp := h.path
  have hi' : i < (l :: es).length := by simp; omega
  have e1 : pv es[i] = (l :: es)[i] := by
    have h1 : nx (l :: es)[i] = es[i] := h.path.get_succ i (by simpa using hi)
    rw [← h1]; exact h.pn _ (List.getElem_mem _)
  have hs : l :: es = (l :: es).take i ++ (l :: es)[i] :: es[i] :: es.drop (i + 1) := by
    have h1 : (l :: es).drop i = (l :: es)[i] :: (l :: es).drop (i + 1) := List.drop_eq_getElem_cons (by simp; omega)
    have h2 : (l :: es).drop (i + 1) = es[i] :: es.drop (i + 1) := by rw [List.drop_succ_cons]; exact List.drop_eq_getElem_cons hi
    rw [← h2, ← h1, List.take_append_drop]
  have hs' : l :: es.eraseIdx i = (l :: es).take i ++ (l :: es)[i] :: es.drop (i + 1) := by
    have h3 : (l :: es).take i ++ [(l :: es)[i]] = l :: es.take i := by rw [← List.take_succ_eq_append_getElem (by simp; omega)]; rfl
    rw [List.eraseIdx_eq_take_drop_succ, ← List.cons_append, ← h3, List.append_assoc]
    rfl
  have hnd := h.nodup
  rw [hs] at hp hnd
  rw [hs', e1]
  rw [List.nodup_append, List.nodup_cons] at hnd
  obtain ⟨_, ⟨m2, _⟩, m4⟩ := hnd
  exact hp.remove (fun x => m4 _ x _ (by simp) rfl) (fun x => m2 (List.mem_cons_of_mem _ x))

theorem mem_eraseIdx {es : List Nat} {i : Nat} (hnd : es.Nodup) (hi : i < es.length) (b : Nat) : b ∈ es.eraseIdx i ↔ b ∈ es ∧ b ≠ es[i] := by
  have h1 : es = es.take i ++ es[i] :: es.drop (i + 1) := by rw [← List.drop_eq_getElem_cons hi, List.take_append_drop]
  have hnd' := hnd
  rw [h1, List.nodup_append, List.nodup_cons] at hnd'
  obtain ⟨_, ⟨m2, _⟩, m4⟩ := hnd'
  rw [List.eraseIdx_eq_take_drop_succ, List.mem_append]
  constructor
  · rintro (h | h)
    · exact ⟨List.mem_of_mem_take h, fun e => m4 _ h _ (List.mem_cons_self ..) e⟩
    · exact ⟨List.mem_of_mem_drop h, fun e => m2 (e ▸ h)⟩
  · rintro ⟨h, hne⟩
    rw [h1, List.mem_append, List.mem_cons] at h
    rcases h with h | h | h
    · exact .inl h
    · exact absurd h hne
    · exact .inr h

/-- The pointers when e is out: still inverse to each other. -/
theorem out_inv {D : Nat → Prop} (pn : ∀ b, D b → pv (nx b) = b) (np : ∀ b, D b → nx (pv b) = b) {e : Nat} (he : D e) (hne : nx e ≠ e) :
    ∀ b, D b → b ≠ e → upd pv (nx e) (pv e) (upd nx (pv e) (nx e) b) = b ∧ upd nx (pv e) (nx e) (upd pv (nx e) (pv e) b) = b := by
  intro b hb hbe
  have h1 := pn e he
  have h2 := np e he
  have h3 := pn b hb
  have h4 := np b hb
  have h5 : pv e ≠ e := fun x => hne (by rw [x] at h2; exact h2)
  unfold upd
  constructor
  · by_cases h : b = pv e
    · subst h; rw [if_pos rfl, if_pos rfl]
    · rw [if_neg h, if_neg (fun x => hbe (by rw [← h3, x, h1]))]; exact h3
  · by_cases h : b = nx e
    · subst h; rw [if_pos rfl, if_pos rfl]
    · rw [if_neg h, if_neg (fun x => hbe (by rw [← h4, x, h2]))]; exact h4

/-- e is linked to itself only when it is alone. -/
theorem Lk.ne_self (h : Lk l es nx pv) {e : Nat} (he : e ∈ es) : nx e ≠ e := by
  intro hx
  obtain ⟨i, hi, rfl⟩ := List.getElem_of_mem he
  have h1 : nx ((l :: es)[i]'(by simp; omega)) = es[i] := h.path.get_succ i (by simpa using hi)
  have h2 := h.pn ((l :: es)[i]'(by simp; omega)) (List.getElem_mem _)
  have h3 := h.pn es[i] (by simp)
  rw [hx] at h3
  rw [h1, h3] at h2
  have := (List.getElem_inj (h₀ := by simp; omega) (h₁ := by simp; omega) h.nodup (xs := l :: es) (i := i + 1) (j := i)).1 h2
  omega

/-- Taking e out. -/
theorem Lk.out (h : Lk l es nx pv) {i : Nat} (hi : i < es.length) : Lk l (es.eraseIdx i) (upd nx (pv es[i]) (nx es[i])) (upd pv (nx es[i]) (pv es[i])) := by
  have hnd := (List.nodup_cons.1 h.nodup)
  have hmem : ∀ b, b ∈ l :: es.eraseIdx i → b ∈ l :: es ∧ b ≠ es[i] := by
    intro b hb
    rcases List.mem_cons.1 hb with rfl | hb
    · exact ⟨by simp, fun e => hnd.1 (by rw [e]; exact List.getElem_mem _)⟩
    · have := (mem_eraseIdx hnd.2 hi b).1 hb
      exact ⟨by simp [this.1], this.2⟩
  have hne := h.ne_self (List.getElem_mem hi)
  have hinv := out_inv (D := (· ∈ l :: es)) h.pn h.np (e := es[i]) (by simp) hne
  refine ⟨h.out_path hi, ?_, fun b hb => (hinv b (hmem b hb).1 (hmem b hb).2).1, fun b hb => (hinv b (hmem b hb).1 (hmem b hb).2).2⟩
  rw [List.nodup_cons]
  exact ⟨fun x => hnd.1 (List.mem_of_mem_eraseIdx x), hnd.2.eraseIdx i⟩

/-- Putting e in behind a. -/
theorem Lk.ins (h : Lk l es nx pv) {e a : Nat} (hne : e ∉ l :: es) (A B : List Nat) (hs : l :: es = A ++ a :: B) (es' : List Nat) (hs' : l :: es' = A ++ a :: e :: B) :
    Lk l es' (upd (upd nx a e) e (nx a)) (upd (upd pv (nx a) e) e a) := by
  have ha : a ∈ l :: es := by rw [hs]; simp
  have hn := h.nxD ha
  have hae : a ≠ e := fun x => hne (x ▸ ha)
  have hnea : nx a ≠ e := fun x => hne (x ▸ hn)
  have hmem : ∀ b, b ∈ l :: es' → b ∈ l :: es ∨ b = e := by
    intro b; rw [hs', hs]; simp only [List.mem_append, List.mem_cons]
    rintro (x | x | x | x)
    · exact .inl (.inl x)
    · exact .inl (.inr (.inl x))
    · exact .inr x
    · exact .inl (.inr (.inr x))
  refine ⟨?_, ?_, ?_, ?_⟩
  · rw [hs']
    have h1 := h.path
    rw [hs] at h1
    have h2 := h.nodup
    rw [hs, List.nodup_append, List.nodup_cons] at h2
    obtain ⟨m1, ⟨m2, m3⟩, m4⟩ := h2
    exact h1.insert (fun x => m4 a x a (by simp) rfl) m2 (fun x => hne (by rw [hs]; simp [x])) (fun x => hne (by rw [hs]; simp [x])) hae.symm
  · have h2 := h.nodup
    rw [hs, List.nodup_append, List.nodup_cons] at h2
    rw [hs', List.nodup_append, List.nodup_cons, List.nodup_cons]
    obtain ⟨m1, ⟨m2, m3⟩, m4⟩ := h2
    have hneA : e ∉ A := fun x => hne (by rw [hs]; simp [x])
    have hneB : e ∉ B := fun x => hne (by rw [hs]; simp [x])
    refine ⟨m1, ⟨?_, hneB, m3⟩, ?_⟩
    · simp only [List.mem_cons]; rintro (x | x)
      · exact hae x
      · exact m2 x
    · intro y hy z hz
      rcases List.mem_cons.1 hz with rfl | hz
      · exact m4 y hy _ (by simp)
      · rcases List.mem_cons.1 hz with rfl | hz
        · exact fun x => hneA (x ▸ hy)
        · exact m4 y hy z (by simp [hz])
  · intro b hb
    have hpn := h.pn
    have hna := h.pn a ha
    by_cases hbe : b = e
    · subst hbe
      rw [upd_same, upd_other _ _ hnea, upd_same]
    · have hb' := (hmem b hb).resolve_right hbe
      rw [upd_other _ _ hbe]
      by_cases hba : b = a
      · subst hba; rw [upd_same, upd_same]
      · rw [upd_other _ _ hba, upd_other _ _ (fun x : nx b = e => hne (x ▸ h.nxD hb')), upd_other _ _ (fun x => hba (by rw [← hpn b hb', x, hna]))]
        exact hpn b hb'
  · intro b hb
    have hnp := h.np
    have hna := h.pn a ha
    by_cases hbe : b = e
    · subst hbe
      rw [upd_same, upd_other _ _ hae, upd_same]
    · have hb' := (hmem b hb).resolve_right hbe
      rw [upd_other _ _ hbe]
      by_cases hbn : b = nx a
      · subst hbn; rw [upd_same, upd_same]
      · rw [upd_other _ _ hbn, upd_other _ _ (fun x : pv b = e => hne (x ▸ h.pvD hb')), upd_other _ _ (fun x => hbn (by rw [← x, hnp b hb']))]
        exact hnp b hb'

theorem upd_comm (f : Nat → Nat) {a b : Nat} (hne : a ≠ b) (x y : Nat) : upd (upd f a x) b y = upd (upd f b y) a x := by
  funext c; unfold upd
  by_cases h1 : c = a
  · subst h1; rw [if_neg hne, if_pos rfl, if_pos rfl]
  · rw [if_neg h1, if_neg h1]

/-- What remove does to memory. -/
def remW (w : World) (l e n p : Nat) (k : Int) : World :=
  ((((((w.setCell ⟨p, 0, none⟩ (P n)).setCell ⟨n, 1, none⟩ (P p)).setCell ⟨e, 0, none⟩ (.pointer none)).setCell ⟨e, 1, none⟩ (.pointer none)).setCell ⟨e, 2, none⟩ (.pointer none)).setCell ⟨l, 4, none⟩ (.int .i64 k)).drew.drew

theorem heap_drew (w : World) : w.drew.heap = w.heap := rfl
theorem heap_drew_ex {w : World} {c : Nat} {t : TypeId} (h : ∃ cs, w.heap[c]? = some (.cells cs t (0, 0))) : ∃ cs, w.drew.heap[c]? = some (.cells cs t (0, 0)) := h
theorem cell_drew (w : World) (a : Addr) : w.drew.cell? a = w.cell? a := rfl

/-- What remove leaves. -/
theorem remW_st (h : LSt w l es nx pv val) {i : Nat} (hi : i < es.length) :
    LSt (remW w l es[i] (nx es[i]) (pv es[i]) ((es.length : Int) - 1)) l (es.eraseIdx i) (upd nx (pv es[i]) (nx es[i])) (upd pv (nx es[i]) (pv es[i])) val
    ∧ (remW w l es[i] (nx es[i]) (pv es[i]) ((es.length : Int) - 1)).cell? ⟨es[i], 3, none⟩ = some (val es[i]) ∧ Chg (· ∈ l :: es) w (remW w l es[i] (nx es[i]) (pv es[i]) ((es.length : Int) - 1)) := by
  have hp := h.pure.out hi
  have hnd := List.nodup_cons.1 h.nodup
  have he := List.getElem_mem hi
  have hmem := mem_eraseIdx hnd.2 hi
  have hD : es[i] ∈ l :: es := by simp
  have hn := h.nxD hD
  have hpv := h.pvD hD
  have hv := (h.own _ he).2
  have hlen : (es.eraseIdx i).length = es.length - 1 := by rw [List.length_eraseIdx, if_pos hi]
  have hle : es[i] ≠ l := fun x => hnd.1 (x ▸ he)
  have hlk := ((((((h.links.set0 hpv (nx es[i])).set1 hn (pv es[i]))))))
  have hne : ∀ b ∈ l :: es.eraseIdx i, es[i] ≠ b := by
    intro b hb
    rcases List.mem_cons.1 hb with rfl | hb
    · exact hle
    · exact ((hmem b).1 hb).2.symm
  have hsub : ∀ b ∈ l :: es.eraseIdx i, b ∈ l :: es := by
    intro b hb
    rcases List.mem_cons.1 hb with rfl | hb
    · simp
    · simp [((hmem b).1 hb).1]
  generalize es[i] = e at *
  refine ⟨⟨fun b hb => ?_, fun b hb => ?_, ?_, ?_, fun b hb => ?_, hp.path, hp.nodup, hp.pn, hp.np⟩, ?_, ?_⟩
  · have h1 := hlk.c0 b (hsub b hb)
    have h2 := hlk.c1 b (hsub b hb)
    unfold remW
    rw [cell_drew, cell_drew, cell_drew, cell_drew]
    exact ⟨cell_set_far (cell_set_far (cell_set_far (cell_set_far h1 (.inl (hne b hb))) (.inl (hne b hb))) (.inl (hne b hb))) (.inr (by omega)), cell_set_far (cell_set_far (cell_set_far (cell_set_far h2 (.inl (hne b hb))) (.inl (hne b hb))) (.inl (hne b hb))) (.inr (by omega))⟩
  · have hb1 := ((hmem b).1 hb).1
    have hb2 := ((hmem b).1 hb).2.symm
    obtain ⟨q2, q3⟩ := h.own b hb1
    unfold remW
    rw [cell_drew, cell_drew, cell_drew, cell_drew]
    exact ⟨cell_set_far (cell_set_far (cell_set_far (cell_set_far (cell_set_far (cell_set_far q2 (.inr (by omega))) (.inr (by omega))) (.inr (by omega))) (.inr (by omega))) (.inl hb2)) (.inr (by omega)),
      cell_set_far (cell_set_far (cell_set_far (cell_set_far (cell_set_far (cell_set_far q3 (.inr (by omega))) (.inr (by omega))) (.inr (by omega))) (.inr (by omega))) (.inr (by omega))) (.inr (by omega))⟩
  · have e1 : ((es.eraseIdx i).length : Int) = (es.length : Int) - 1 := by omega
    rw [e1]
    unfold remW
    rw [cell_drew, cell_drew]
    exact World.cell?_setCell_same _ _ _ (cell_set_far (cell_set_far (cell_set_far (cell_set_far (cell_set_far h.len (.inr (by omega))) (.inr (by omega))) (.inr (by omega))) (.inr (by omega))) (.inr (by omega)))
  · unfold remW
    exact heap_drew_ex (heap_drew_ex (heap_set_ex (heap_set_ex (heap_set_ex (heap_set_ex (heap_set_ex (heap_set_ex h.head)))))))
  · unfold remW
    exact heap_drew_ex (heap_drew_ex (heap_set_ex (heap_set_ex (heap_set_ex (heap_set_ex (heap_set_ex (heap_set_ex (h.elem b ((hmem b).1 hb).1))))))))
  · unfold remW
    rw [cell_drew, cell_drew]
    exact cell_set_far (cell_set_far (cell_set_far (cell_set_far (cell_set_far (cell_set_far hv (.inr (by omega))) (.inr (by omega))) (.inr (by omega))) (.inr (by omega))) (.inr (by omega))) (.inr (by omega))
  · unfold remW
    exact ((((((((Chg.refl _ w).setCell hpv _).setCell hn _).setCell hD _).setCell hD _).setCell hD _).setCell (by simp) _).trans (chg_of_bl (bl_drew (bl_refl _)) _)).trans (chg_of_bl (bl_drew (bl_refl _)) _)

theorem map_eraseIdx' {α β : Type} (f : α → β) (xs : List α) (i : Nat) : (xs.eraseIdx i).map f = (xs.map f).eraseIdx i := by
  rw [List.eraseIdx_eq_take_drop_succ, List.eraseIdx_eq_take_drop_succ, List.map_append, List.map_take, List.map_drop]

/-- What move does to memory. -/
def movW (w : World) (e a n p m : Nat) : World :=
  ((((((w.setCell ⟨p, 0, none⟩ (P n)).setCell ⟨n, 1, none⟩ (P p)).setCell ⟨e, 1, none⟩ (P a)).setCell ⟨e, 0, none⟩ (P m)).setCell ⟨a, 0, none⟩ (P e)).setCell ⟨m, 1, none⟩ (P e)).drew.drew

set_option maxRecDepth 100000 in
set_option maxHeartbeats 2000000 in
theorem move_walk (h : LSt w l es nx pv val) {e a : Nat} (he : e ∈ es) (ha : a ∈ l :: es) (hne : a ≠ e) :
    Calls Try.prog 32 #[P l, P e, P a] w fun r w' => r = .returned (.tuple #[]) ∧ movW w e a (nx e) (pv e) (upd nx (pv e) (nx e) a) = w' := by
  have hD : e ∈ l :: es := by simp [he]
  have hn := h.nxD hD
  have hp := h.pvD hD
  have hm := h.nxD ha
  have e0 := (h.lk e hD).1
  have e1 := (h.lk e hD).2
  have p0 := (h.lk (pv e) hp).1
  have n1 := (h.lk (nx e) hn).2
  have a0 := (h.lk a ha).1
  have m1 := (h.lk (nx a) hm).2
  have fe : ∀ i, w.frozen? ⟨e, i, none⟩ = false := fun i => h.frozen hD i
  have fp := h.frozen hp 0
  have fn := h.frozen hn 1
  have fa := h.frozen ha 0
  have fm := h.frozen hm 1
  have d1 : ¬ e = nx e := fun x => h.pure.ne_self he x.symm
  have d2 : ¬ nx e = e := fun x => h.pure.ne_self he x
  have d3 : ¬ pv e = e := fun x => by have := h.np e hD; rw [x] at this; exact d2 this
  have d4 : ¬ e = pv e := fun x => d3 x.symm
  have d5 : ¬ a = e := hne
  have d6 : ¬ e = a := fun x => hne x.symm
  obtain ⟨jj, hte, hsz⟩ := elemSize
  obtain ⟨cs, t, q1⟩ := h.blk hD
  obtain ⟨cs2, t2, q2⟩ := h.blk ha
  have hq := (run_equal_other (w := w) Try.underlying40 hte hsz d6 q1 q2).2
  by_cases hap : a = pv e
  · have hmv : upd nx (pv e) (nx e) a = nx e := by rw [hap, upd_same]
    rw [hmv]
    clear h he ha hn hp hD hm hte hsz q1 q2 hmv a0 m1 fm
    generalize nx e = n at *
    generalize pv e = p at *
    subst hap
    go_enter Try.func32, Try.ntmps32
    go_wp2
    refine region_tail 10 (by kernel_rfl) (by kernel_rfl) ?_
    simp only [List.take_succ_cons, List.take_zero, List.drop_succ_cons, List.drop_zero]
    repeat still_step
    refine wpStill_nil ?_
    go_wp2
    refine region_tail 10 (by kernel_rfl) (by kernel_rfl) ?_
    simp only [List.take_succ_cons, List.take_zero, List.drop_succ_cons, List.drop_zero]
    repeat still_step
    refine wpStill_nil ?_
    go_wp2
    go_end0
    exact ⟨rfl, rfl⟩
  · have hmv : upd nx (pv e) (nx e) a = nx a := by rw [upd_other _ _ hap]
    rw [hmv]
    have d7 : ¬ nx a = e := fun x => hap (by have := h.pn a ha; rw [x] at this; exact this.symm)
    have d8 : ¬ e = nx a := fun x => d7 x.symm
    have d9 : ¬ pv e = a := fun x => hap x.symm
    have d10 : ¬ nx e = nx a := fun x => hne (by rw [← h.pn a ha, ← h.pn e hD, x])
    have d11 : ¬ nx a = nx e := fun x => d10 x.symm
    clear h he ha hn hp hD hm hte hsz q1 q2 hmv
    generalize nx a = m at *
    generalize nx e = n at *
    generalize pv e = p at *
    go_enter Try.func32, Try.ntmps32
    go_wp2
    refine region_tail 10 (by kernel_rfl) (by kernel_rfl) ?_
    simp only [List.take_succ_cons, List.take_zero, List.drop_succ_cons, List.drop_zero]
    repeat still_step
    refine wpStill_nil ?_
    go_wp2
    refine region_tail 10 (by kernel_rfl) (by kernel_rfl) ?_
    simp only [List.take_succ_cons, List.take_zero, List.drop_succ_cons, List.drop_zero]
    repeat still_step
    refine wpStill_nil ?_
    go_wp2
    go_end0
    exact ⟨rfl, rfl⟩

theorem movW_st (h : LSt w l es nx pv val) {i : Nat} (hi : i < es.length) {a : Nat} (A B : List Nat) (hs : l :: es.eraseIdx i = A ++ a :: B) (es' : List Nat) (hs' : l :: es' = A ++ a :: es[i] :: B) :
    ∃ nx' pv', LSt (movW w es[i] a (nx es[i]) (pv es[i]) (upd nx (pv es[i]) (nx es[i]) a)) l es' nx' pv' val
    ∧ Chg (· ∈ l :: es) w (movW w es[i] a (nx es[i]) (pv es[i]) (upd nx (pv es[i]) (nx es[i]) a)) ∧ a ∈ l :: es ∧ a ≠ es[i] := by
  have hp := h.pure.out hi
  have hnd := List.nodup_cons.1 h.nodup
  have he := List.getElem_mem hi
  have hmem := mem_eraseIdx hnd.2 hi
  have hD : es[i] ∈ l :: es := by simp
  have hn := h.nxD hD
  have hpv := h.pvD hD
  have hle : es[i] ≠ l := fun x => hnd.1 (x ▸ he)
  have hsub : ∀ b ∈ l :: es.eraseIdx i, b ∈ l :: es ∧ b ≠ es[i] := by
    intro b hb
    rcases List.mem_cons.1 hb with rfl | hb
    · exact ⟨by simp, hle.symm⟩
    · exact ⟨by simp [((hmem b).1 hb).1], ((hmem b).1 hb).2⟩
  have ha' : a ∈ l :: es.eraseIdx i := by rw [hs]; simp
  obtain ⟨ha, hae⟩ := hsub a ha'
  have hm' := hp.nxD ha'
  obtain ⟨hm, hme⟩ := hsub _ hm'
  have hni : es[i] ∉ l :: es.eraseIdx i := fun x => (hsub _ x).2 rfl
  have hq := hp.ins hni A B hs es' hs'
  have hlen : (es.eraseIdx i).length = es.length - 1 := by rw [List.length_eraseIdx, if_pos hi]
  have hlen' : es'.length = es.length := by
    have h1 := congrArg List.length hs
    have h2 := congrArg List.length hs'
    simp only [List.length_cons, List.length_append] at h1 h2
    omega
  have hin : ∀ b ∈ es', b ∈ es := by
    intro b hb
    have hb' : b ∈ l :: es' := by simp [hb]
    have hbl : b ≠ l := fun x => (List.nodup_cons.1 hq.nodup).1 (x ▸ hb)
    have h3 : b ∈ l :: es.eraseIdx i ∨ b = es[i] := by
      rw [hs'] at hb'; rw [hs]
      simp only [List.mem_append, List.mem_cons] at hb' ⊢
      rcases hb' with x | x | x | x
      · exact .inl (.inl x)
      · exact .inl (.inr (.inl x))
      · exact .inr x
      · exact .inl (.inr (.inr x))
    rcases h3 with h3 | h3
    · exact (List.mem_cons.1 (hsub b h3).1).resolve_left hbl
    · rw [h3]; exact he
  have hlk := (((((h.links.set0 hpv (nx es[i])).set1 hn (pv es[i])).set1 hD a).set0 hD (upd nx (pv es[i]) (nx es[i]) a)).set0 ha es[i]).set1 hm es[i]
  rw [upd_comm _ (fun x => hae x.symm), upd_comm _ (fun x => hme x.symm)] at hlk
  refine ⟨_, _, ⟨fun b hb => ?_, fun b hb => ?_, ?_, ?_, fun b hb => ?_, hq.path, hq.nodup, hq.pn, hq.np⟩, ?_, ha, hae⟩
  · have hb1 : b ∈ l :: es := by
      rcases List.mem_cons.1 hb with rfl | hb
      · simp
      · simp [hin b hb]
    unfold movW
    rw [cell_drew, cell_drew, cell_drew, cell_drew]
    exact ⟨hlk.c0 b hb1, hlk.c1 b hb1⟩
  · obtain ⟨q2, q3⟩ := h.own b (hin b hb)
    unfold movW
    rw [cell_drew, cell_drew, cell_drew, cell_drew]
    exact ⟨cell_set_far (cell_set_far (cell_set_far (cell_set_far (cell_set_far (cell_set_far q2 (.inr (by omega))) (.inr (by omega))) (.inr (by omega))) (.inr (by omega))) (.inr (by omega))) (.inr (by omega)),
      cell_set_far (cell_set_far (cell_set_far (cell_set_far (cell_set_far (cell_set_far q3 (.inr (by omega))) (.inr (by omega))) (.inr (by omega))) (.inr (by omega))) (.inr (by omega))) (.inr (by omega))⟩
  · rw [hlen']
    unfold movW
    rw [cell_drew, cell_drew]
    exact cell_set_far (cell_set_far (cell_set_far (cell_set_far (cell_set_far (cell_set_far h.len (.inr (by omega))) (.inr (by omega))) (.inr (by omega))) (.inr (by omega))) (.inr (by omega))) (.inr (by omega))
  · unfold movW
    exact heap_drew_ex (heap_drew_ex (heap_set_ex (heap_set_ex (heap_set_ex (heap_set_ex (heap_set_ex (heap_set_ex h.head)))))))
  · unfold movW
    exact heap_drew_ex (heap_drew_ex (heap_set_ex (heap_set_ex (heap_set_ex (heap_set_ex (heap_set_ex (heap_set_ex (h.elem b (hin b hb)))))))))
  · unfold movW
    exact ((((((((Chg.refl _ w).setCell hpv _).setCell hn _).setCell hD _).setCell hD _).setCell ha _).setCell hm _).trans (chg_of_bl (bl_drew (bl_refl _)) _)).trans (chg_of_bl (bl_drew (bl_refl _)) _)

/-- move: the element at i goes behind a. -/
theorem move_st (h : LSt w l es nx pv val) {i : Nat} (hi : i < es.length) {a : Nat} (A B : List Nat) (hs : l :: es.eraseIdx i = A ++ a :: B) (es' : List Nat) (hs' : l :: es' = A ++ a :: es[i] :: B) :
    Calls Try.prog 32 #[P l, P es[i], P a] w fun r w' => r = .returned (.tuple #[]) ∧ LC w' l es' (es'.map val) ∧ Chg (· ∈ l :: es) w w' := by
  obtain ⟨nx', pv', h1, h2, h3, h4⟩ := movW_st h hi A B hs es' hs'
  refine (move_walk h (List.getElem_mem hi) h3 h4).mono ?_
  rintro r w' ⟨rfl, rfl⟩
  exact ⟨rfl, ⟨_, _, _, h1, rfl⟩, h2⟩
end

end Go.Proofs.Ythgghafndabpfaa
