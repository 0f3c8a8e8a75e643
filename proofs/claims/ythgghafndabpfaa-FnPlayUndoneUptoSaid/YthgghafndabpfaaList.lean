/- The contracts of container/list: lists in memory, and what the functions do to them. -/
import Derived.Test.YthgghafndabpfaaMem
import Derived.Test.YthgghafndabpfaaPath
import Derived.LaidEqlPtr
namespace Go.Proofs.Ythgghafndabpfaa
open Go.RowKit

/-- A list in memory: its head at block l, its elements at the blocks es; nx is the next one, pv the one ahead. -/
structure LSt (w : World) (l : Nat) (es : List Nat) (nx pv : Nat → Nat) (val : Nat → Value) : Prop where
  lk : ∀ b ∈ l :: es, w.cell? ⟨b, 0, none⟩ = some (P (nx b)) ∧ w.cell? ⟨b, 1, none⟩ = some (P (pv b))
  own : ∀ e ∈ es, w.cell? ⟨e, 2, none⟩ = some (P l) ∧ w.cell? ⟨e, 3, none⟩ = some (val e)
  len : w.cell? ⟨l, 4, none⟩ = some (.int .i64 es.length)
  head : ∃ cs, w.heap[l]? = some (.cells cs 57 (0, 0))
  elem : ∀ e ∈ es, ∃ cs, w.heap[e]? = some (.cells cs 55 (0, 0))
  path : Path nx l (l :: es) l
  nodup : (l :: es).Nodup
  pn : ∀ b ∈ l :: es, pv (nx b) = b
  np : ∀ b ∈ l :: es, nx (pv b) = b

section
variable {w w' : World} {l : Nat} {es : List Nat} {nx pv : Nat → Nat} {val : Nat → Value}

theorem LSt.blk (h : LSt w l es nx pv val) {b : Nat} (hb : b ∈ l :: es) : ∃ cs t, w.heap[b]? = some (.cells cs t (0, 0)) := by
  rcases List.mem_cons.1 hb with rfl | hb
  · obtain ⟨cs, e⟩ := h.head; exact ⟨cs, _, e⟩
  · obtain ⟨cs, e⟩ := h.elem b hb; exact ⟨cs, _, e⟩
theorem LSt.frozen (h : LSt w l es nx pv val) {b : Nat} (hb : b ∈ l :: es) (i : Nat) : w.frozen? ⟨b, i, none⟩ = false := by
  obtain ⟨cs, t, e⟩ := h.blk hb; exact frozen_of_heap e
theorem LSt.lt (h : LSt w l es nx pv val) {b : Nat} (hb : b ∈ l :: es) : b < w.heap.size := by
  obtain ⟨cs, t, e⟩ := h.blk hb; exact lt_of_heap e
theorem LSt.keep (h : LSt w l es nx pv val) (hk : ∀ b ∈ l :: es, w'.heap[b]? = w.heap[b]?) : LSt w' l es nx pv val := by
  have hc : ∀ b ∈ l :: es, ∀ i, w'.cell? ⟨b, i, none⟩ = w.cell? ⟨b, i, none⟩ := fun b hb i => World.cell?_of_block (w := w) (a := ⟨b, i, none⟩) (hk b hb)
  refine ⟨fun b hb => ?_, fun e he => ?_, ?_, ?_, fun e he => ?_, h.path, h.nodup, h.pn, h.np⟩
  · rw [hc b hb, hc b hb]; exact h.lk b hb
  · rw [hc e (by simp [he]), hc e (by simp [he])]; exact h.own e he
  · rw [hc l (by simp)]; exact h.len
  · rw [hk l (by simp)]; exact h.head
  · rw [hk e (by simp [he])]; exact h.elem e he
theorem LSt.bl (h : LSt w l es nx pv val) (hb : Bl w w') : LSt w' l es nx pv val := h.keep fun _ hi => hb.block _ (h.lt hi)
theorem LSt.chg {S : Nat → Prop} (h : LSt w l es nx pv val) (hb : Chg S w w') (hs : ∀ b ∈ l :: es, ¬ S b) : LSt w' l es nx pv val := h.keep fun b hi => hb.block _ (h.lt hi) (hs b hi)

/-- A list, however its pointers run. -/
def LL (w : World) (l : Nat) (es : List Nat) (val : Nat → Value) : Prop := ∃ nx pv, LSt w l es nx pv val

/-- Two blocks' heads compared. -/
theorem elemSize : ∃ j, Try.prog.info? 55 = some j ∧ j.size ≠ 0 := by
  have h : (Try.prog.info? 55).map (fun i => i.size) = some 4 := by kernel_rfl
  cases hi : Try.prog.info? 55 with
  | none => rw [hi] at h; cases h
  | some j => rw [hi] at h; simp at h; exact ⟨j, rfl, by omega⟩
theorem listSize : ∃ j, Try.prog.info? 57 = some j ∧ j.size ≠ 0 := by
  have h : (Try.prog.info? 57).map (fun i => i.size) = some 5 := by kernel_rfl
  cases hi : Try.prog.info? 57 with
  | none => rw [hi] at h; cases h
  | some j => rw [hi] at h; simp at h; exact ⟨j, rfl, by omega⟩

theorem run_equal_other {tp te : TypeId} {j : TypeInfo} {a b : Nat} {ca cb : Array Value} {ta tb : TypeId} (hp : Try.prog.underlying tp = some (.pointer te)) (hte : Try.prog.info? te = some j) (hsz : j.size ≠ 0)
    (hne : a ≠ b) (ha : w.heap[a]? = some (.cells ca ta (0, 0))) (hb : w.heap[b]? = some (.cells cb tb (0, 0))) :
    (binOp .neq tp (P a) (P b)).run Try.prog w = .ok (.bool true) w ∧ (binOp .eql tp (P a) (P b)).run Try.prog w = .ok (.bool false) w := by
  have hne' : (⟨a, 0, none⟩ : Addr) ≠ ⟨b, 0, none⟩ := fun e => hne (by injection e)
  have hq : ∀ d : Nat, (Op.equalIn (d + 1) tp (P a) (P b)).run Try.prog w = .ok false w := fun d => by
    simp [Op.equalIn, run_underlying hp, sizeOf, typeInfo, hte, hsz, run_sameAddr_other w hne' ha hb]
  constructor <;> (simp only [binOp]; simp [Op.equal, Op.maxDepth, hq 9999])
theorem run_equal_same {tp te : TypeId} {j : TypeInfo} (b : Nat) (w : World) (hp : Try.prog.underlying tp = some (.pointer te)) (hte : Try.prog.info? te = some j) :
    (binOp .neq tp (P b) (P b)).run Try.prog w = .ok (.bool false) w ∧ (binOp .eql tp (P b) (P b)).run Try.prog w = .ok (.bool true) w := by
  have hq : ∀ d : Nat, (Op.equalIn (d + 1) tp (P b) (P b)).run Try.prog w = .ok true w := fun d => by
    simp [Op.equalIn, run_underlying hp, sizeOf, typeInfo, hte, sameAddr]
  constructor <;> (simp only [binOp]; simp [Op.equal, Op.maxDepth, hq 9999])

/-- Pointers alone: the links of the blocks in D. -/
structure LK (w : World) (D : List Nat) (nx pv : Nat → Nat) : Prop where
  c0 : ∀ b ∈ D, w.cell? ⟨b, 0, none⟩ = some (P (nx b))
  c1 : ∀ b ∈ D, w.cell? ⟨b, 1, none⟩ = some (P (pv b))
theorem LK.set0 {D : List Nat} (h : LK w D nx pv) {b : Nat} (hb : b ∈ D) (n : Nat) : LK (w.setCell ⟨b, 0, none⟩ (P n)) D (upd nx b n) pv := by
  refine ⟨fun c hc => ?_, fun c hc => ?_⟩
  · by_cases hcb : c = b
    · subst hcb; rw [upd_same]; exact World.cell?_setCell_same _ _ _ (h.c0 c hc)
    · rw [upd_other _ _ hcb, World.cell?_setCell_other _ _ _ _ (fun e => hcb (by injection e with e; exact e.symm))]; exact h.c0 c hc
  · rw [World.cell?_setCell_other _ _ _ _ (by simp)]; exact h.c1 c hc
theorem LK.set1 {D : List Nat} (h : LK w D nx pv) {b : Nat} (hb : b ∈ D) (n : Nat) : LK (w.setCell ⟨b, 1, none⟩ (P n)) D nx (upd pv b n) := by
  refine ⟨fun c hc => ?_, fun c hc => ?_⟩
  · rw [World.cell?_setCell_other _ _ _ _ (by simp)]; exact h.c0 c hc
  · by_cases hcb : c = b
    · subst hcb; rw [upd_same]; exact World.cell?_setCell_same _ _ _ (h.c1 c hc)
    · rw [upd_other _ _ hcb, World.cell?_setCell_other _ _ _ _ (fun e => hcb (by injection e with e; exact e.symm))]; exact h.c1 c hc
theorem LK.far {D : List Nat} (h : LK w D nx pv) {b i : Nat} (hi : 2 ≤ i) (u : Value) : LK (w.setCell ⟨b, i, none⟩ u) D nx pv := by
  refine ⟨fun c hc => ?_, fun c hc => ?_⟩
  · rw [World.cell?_setCell_other _ _ _ _ (fun e => by injection e with e1 e2; omega)]; exact h.c0 c hc
  · rw [World.cell?_setCell_other _ _ _ _ (fun e => by injection e with e1 e2; omega)]; exact h.c1 c hc
theorem LSt.links (h : LSt w l es nx pv val) : LK w (l :: es) nx pv := ⟨fun b hb => (h.lk b hb).1, fun b hb => (h.lk b hb).2⟩

theorem cell_set_far {w : World} {b i c j : Nat} {u v : Value} (h : w.cell? ⟨c, j, none⟩ = some v) (hne : b ≠ c ∨ i ≠ j) : (w.setCell ⟨b, i, none⟩ u).cell? ⟨c, j, none⟩ = some v := by
  rw [World.cell?_setCell_other _ _ _ _ (fun e => by injection e with e1 e2; omega)]; exact h

theorem heap_set_ex {w : World} {b i c : Nat} {t : TypeId} {u : Value} (h : ∃ cs, w.heap[c]? = some (.cells cs t (0, 0))) : ∃ cs, (w.setCell ⟨b, i, none⟩ u).heap[c]? = some (.cells cs t (0, 0)) := by
  obtain ⟨cs, e⟩ := h
  by_cases hcb : c = b
  · subst hcb; exact ⟨_, heap_setCell_same e u⟩
  · exact ⟨cs, by rw [Below.heap_setCell _ _ _ _ hcb]; exact e⟩

theorem LSt.nxD (h : LSt w l es nx pv val) {b : Nat} (hb : b ∈ l :: es) : nx b ∈ l :: es := by
  obtain ⟨j, hj, e⟩ := List.getElem_of_mem hb
  by_cases hj1 : j + 1 < (l :: es).length
  · rw [← e, h.path.get_succ j hj1]; exact List.getElem_mem _
  · have hlast := h.path.get_last (by simp)
    have ej : j = (l :: es).length - 1 := by omega
    subst ej
    rw [← e, hlast]; simp
theorem LSt.pvD (h : LSt w l es nx pv val) {b : Nat} (hb : b ∈ l :: es) : pv b ∈ l :: es := by
  obtain ⟨j, hj, e⟩ := List.getElem_of_mem hb
  cases j with
  | zero =>
    have hlast := h.path.get_last (by simp)
    have hm : (l :: es)[(l :: es).length - 1]'(by simp) ∈ l :: es := List.getElem_mem _
    have := h.pn _ hm
    rw [hlast] at this
    have e' : l = b := e
    rw [← e', this]; exact hm
  | succ j =>
    have h1 := h.path.get_succ j hj
    have hm : (l :: es)[j]'(by omega) ∈ l :: es := List.getElem_mem _
    have := h.pn _ hm
    rw [h1, e] at this
    rw [this]; exact hm

/-- What insert does to memory. -/
def insW (w : World) (l e at_ n : Nat) (k : Int) : World :=
  (((((w.setCell ⟨e, 1, none⟩ (P at_)).setCell ⟨e, 0, none⟩ (P n)).setCell ⟨at_, 0, none⟩ (P e)).setCell ⟨n, 1, none⟩ (P e)).setCell ⟨e, 2, none⟩ (P l)).setCell ⟨l, 4, none⟩ (.int .i64 k)

theorem insW_st (h : LSt w l es nx pv val) {e : Nat} {v : Value} (he : w.heap[e]? = some (.cells #[.pointer none, .pointer none, .pointer none, v] 55 (0, 0))) (hne : e ∉ l :: es) (A B : List Nat) (a : Nat) (hs : l :: es = A ++ a :: B) (es' : List Nat) (hs' : l :: es' = A ++ a :: e :: B) :
    LSt (insW w l e a (nx a) ((es.length : Int) + 1)) l es' (upd (upd nx a e) e (nx a)) (upd (upd pv (nx a) e) e a) (fun b => if b = e then v else val b) := by
  have ha : a ∈ l :: es := by rw [hs]; simp
  have hn := h.nxD ha
  have hae : a ≠ e := fun x => hne (x ▸ ha)
  have hnea : nx a ≠ e := fun x => hne (x ▸ hn)
  have hle : l ≠ e := fun x => hne (by simp [x])
  have hmem : ∀ b, b ∈ l :: es' ↔ b ∈ l :: es ∨ b = e := by
    intro b; rw [hs', hs]; simp only [List.mem_append, List.mem_cons]
    constructor
    · rintro (x | x | x | x)
      · exact .inl (.inl x)
      · exact .inl (.inr (.inl x))
      · exact .inr x
      · exact .inl (.inr (.inr x))
    · rintro ((x | x | x) | x)
      · exact .inl x
      · exact .inr (.inl x)
      · exact .inr (.inr (.inr x))
      · exact .inr (.inr (.inl x))
  have hmem' : ∀ b, b ∈ es' → b ≠ e → b ∈ es := by
    intro b hb hbe
    have h1 := ((hmem b).1 (by simp [hb])).resolve_right hbe
    rcases List.mem_cons.1 h1 with rfl | h1
    · exfalso
      have hnd : (b :: es').Nodup := by
        have h2 := h.nodup
        rw [hs, List.nodup_append, List.nodup_cons] at h2
        rw [hs', List.nodup_append, List.nodup_cons, List.nodup_cons]
        obtain ⟨m1, ⟨m2, m3⟩, m4⟩ := h2
        have hneA : e ∉ A := fun x => hne (by rw [hs]; simp [x])
        have hneB : e ∉ B := fun x => hne (by rw [hs]; simp [x])
        refine ⟨m1, ⟨?_, hneB, m3⟩, ?_⟩
        · simp only [List.mem_cons]; rintro (x | x)
          · exact hae x
          · exact m2 x
        · intro y hy z hz
          rcases List.mem_cons.1 hz with rfl | hz
          · exact m4 y hy _ (by simp)
          · rcases List.mem_cons.1 hz with rfl | hz
            · exact fun x => hneA (x ▸ hy)
            · exact m4 y hy z (by simp [hz])
      exact (List.nodup_cons.1 hnd).1 hb
    · exact h1
  have hlen : es'.length = es.length + 1 := by
    have h1 := congrArg List.length hs
    have h2 := congrArg List.length hs'
    simp at h1 h2
    omega
  -- the links
  have c0 : ∀ b, b ∈ l :: es' → (insW w l e a (nx a) ((es.length : Int) + 1)).cell? ⟨b, 0, none⟩ = some (P (upd (upd nx a e) e (nx a) b)) ∧ (insW w l e a (nx a) ((es.length : Int) + 1)).cell? ⟨b, 1, none⟩ = some (P (upd (upd pv (nx a) e) e a b)) := by
    have k0 : LK w (l :: es) nx pv := h.links
    have k1 : LK (w.setCell ⟨e, 1, none⟩ (P a)) (l :: es) nx pv := ⟨fun b hb => cell_set_far (k0.c0 b hb) (.inr (by omega)), fun b hb => cell_set_far (k0.c1 b hb) (.inl (fun x => hne (x ▸ hb)))⟩
    have k2 : LK ((w.setCell ⟨e, 1, none⟩ (P a)).setCell ⟨e, 0, none⟩ (P (nx a))) (l :: es) nx pv := ⟨fun b hb => cell_set_far (k1.c0 b hb) (.inl (fun x => hne (x ▸ hb))), fun b hb => cell_set_far (k1.c1 b hb) (.inr (by omega))⟩
    have k3 := k2.set0 ha e
    have k4 := k3.set1 hn e
    have k5 := (k4.far (b := e) (i := 2) (by omega) (P l)).far (b := l) (i := 4) (by omega) (.int .i64 ((es.length : Int) + 1))
    have q0 : w.cell? ⟨e, 0, none⟩ = some (.pointer none) := by rw [cell_of_heap he]; rfl
    have q1 : w.cell? ⟨e, 1, none⟩ = some (.pointer none) := by rw [cell_of_heap he]; rfl
    intro b hb
    by_cases hbe : b = e
    · subst hbe
      rw [upd_same, upd_same]
      unfold insW
      constructor
      · refine cell_set_far (cell_set_far (cell_set_far (cell_set_far ?_ (.inl hae)) (.inr (by omega))) (.inr (by omega))) (.inr (by omega))
        exact World.cell?_setCell_same _ _ _ (cell_set_far q0 (.inr (by omega)))
      · refine cell_set_far (cell_set_far (cell_set_far (cell_set_far (cell_set_far ?_ (.inr (by omega))) (.inr (by omega))) (.inl hnea)) (.inr (by omega))) (.inr (by omega))
        exact World.cell?_setCell_same _ _ _ q1
    · have hb' := ((hmem b).1 hb).resolve_right hbe
      rw [upd_other _ _ hbe, upd_other _ _ hbe]
      exact ⟨k5.c0 b hb', k5.c1 b hb'⟩
  refine ⟨c0, fun b hb => ?_, ?_, ?_, fun b hb => ?_, ?_, ?_, ?_, ?_⟩
  · by_cases hbe : b = e
    · subst hbe
      rw [if_pos rfl]
      have q2 : w.cell? ⟨b, 2, none⟩ = some (.pointer none) := by rw [cell_of_heap he]; rfl
      have q3 : w.cell? ⟨b, 3, none⟩ = some v := by rw [cell_of_heap he]; rfl
      unfold insW
      constructor
      · refine cell_set_far ?_ (.inl hle)
        exact World.cell?_setCell_same _ _ _ (cell_set_far (cell_set_far (cell_set_far (cell_set_far q2 (.inr (by omega))) (.inr (by omega))) (.inr (by omega))) (.inr (by omega)))
      · exact cell_set_far (cell_set_far (cell_set_far (cell_set_far (cell_set_far (cell_set_far q3 (.inr (by omega))) (.inr (by omega))) (.inr (by omega))) (.inr (by omega))) (.inr (by omega))) (.inr (by omega))
    · rw [if_neg hbe]
      obtain ⟨q2, q3⟩ := h.own b (hmem' b hb hbe)
      unfold insW
      exact ⟨cell_set_far (cell_set_far (cell_set_far (cell_set_far (cell_set_far (cell_set_far q2 (.inr (by omega))) (.inr (by omega))) (.inr (by omega))) (.inr (by omega))) (.inl (fun x => hbe x.symm))) (.inr (by omega)),
        cell_set_far (cell_set_far (cell_set_far (cell_set_far (cell_set_far (cell_set_far q3 (.inr (by omega))) (.inr (by omega))) (.inr (by omega))) (.inr (by omega))) (.inr (by omega))) (.inr (by omega))⟩
  · rw [hlen]
    unfold insW
    exact World.cell?_setCell_same _ _ _ (cell_set_far (cell_set_far (cell_set_far (cell_set_far (cell_set_far h.len (.inr (by omega))) (.inr (by omega))) (.inr (by omega))) (.inr (by omega))) (.inr (by omega)))
  · exact heap_set_ex (heap_set_ex (heap_set_ex (heap_set_ex (heap_set_ex (heap_set_ex h.head)))))
  · by_cases hbe : b = e
    · subst hbe
      exact heap_set_ex (heap_set_ex (heap_set_ex (heap_set_ex (heap_set_ex (heap_set_ex ⟨_, he⟩)))))
    · exact heap_set_ex (heap_set_ex (heap_set_ex (heap_set_ex (heap_set_ex (heap_set_ex (h.elem b (hmem' b hb hbe)))))))
  · rw [hs']
    have h1 := h.path
    rw [hs] at h1
    have h2 := h.nodup
    rw [hs, List.nodup_append, List.nodup_cons] at h2
    obtain ⟨m1, ⟨m2, m3⟩, m4⟩ := h2
    exact h1.insert (fun x => m4 a x a (by simp) rfl) m2 (fun x => hne (by rw [hs]; simp [x])) (fun x => hne (by rw [hs]; simp [x])) hae.symm
  · have h2 := h.nodup
    rw [hs, List.nodup_append, List.nodup_cons] at h2
    rw [hs', List.nodup_append, List.nodup_cons, List.nodup_cons]
    obtain ⟨m1, ⟨m2, m3⟩, m4⟩ := h2
    have hneA : e ∉ A := fun x => hne (by rw [hs]; simp [x])
    have hneB : e ∉ B := fun x => hne (by rw [hs]; simp [x])
    refine ⟨m1, ⟨?_, hneB, m3⟩, ?_⟩
    · simp only [List.mem_cons]; rintro (x | x)
      · exact hae x
      · exact m2 x
    · intro y hy z hz
      rcases List.mem_cons.1 hz with rfl | hz
      · exact m4 y hy _ (by simp)
      · rcases List.mem_cons.1 hz with rfl | hz
        · exact fun x => hneA (x ▸ hy)
        · exact m4 y hy z (by simp [hz])
  · intro b hb
    have hpn := h.pn
    have hna := h.pn a ha
    by_cases hbe : b = e
    · subst hbe
      rw [upd_same, upd_other _ _ hnea, upd_same]
    · have hb' := ((hmem b).1 hb).resolve_right hbe
      rw [upd_other _ _ hbe]
      by_cases hba : b = a
      · subst hba; rw [upd_same, upd_same]
      · rw [upd_other _ _ hba, upd_other _ _ (fun x : nx b = e => hne (x ▸ h.nxD hb')), upd_other _ _ (fun x => hba (by rw [← hpn b hb', x, hna]))]
        exact hpn b hb'
  · intro b hb
    have hnp := h.np
    have hna := h.pn a ha
    by_cases hbe : b = e
    · subst hbe
      rw [upd_same, upd_other _ _ hae, upd_same]
    · have hb' := ((hmem b).1 hb).resolve_right hbe
      rw [upd_other _ _ hbe]
      by_cases hbn : b = nx a
      · subst hbn; rw [upd_same, upd_same]
      · rw [upd_other _ _ hbn, upd_other _ _ (fun x : pv b = e => hne (x ▸ h.pvD hb')), upd_other _ _ (fun x => hbn (by rw [← x, hnp b hb']))]
        exact hnp b hb'

set_option maxRecDepth 100000 in
set_option maxHeartbeats 400000 in
theorem insert_walk (h : LSt w l es nx pv val) {e : Nat} {v : Value} (he : w.heap[e]? = some (.cells #[.pointer none, .pointer none, .pointer none, v] 55 (0, 0))) (hne : e ∉ l :: es) {a : Nat} (ha : a ∈ l :: es) (hl : es.length ≤ 4611686018427387904) :
    Calls Try.prog 40 #[P l, P e, P a] w fun r w' => r = .returned (P e) ∧ insW w l e a (nx a) ((es.length : Int) + 1) = w' := by
  have hn := h.nxD ha
  have e0 : w.cell? ⟨e, 0, none⟩ = some (.pointer none) := by rw [cell_of_heap he]; rfl
  have e1 : w.cell? ⟨e, 1, none⟩ = some (.pointer none) := by rw [cell_of_heap he]; rfl
  have e2 : w.cell? ⟨e, 2, none⟩ = some (.pointer none) := by rw [cell_of_heap he]; rfl
  have a0 := (h.lk a ha).1
  have n1 := (h.lk (nx a) hn).2
  have l4 := h.len
  have fe : ∀ i, w.frozen? ⟨e, i, none⟩ = false := fun i => frozen_of_heap he
  have fa := h.frozen ha 0
  have fn := h.frozen hn 1
  have fl := h.frozen (b := l) (by simp) 4
  have d1 : ¬ e = a := fun x => hne (x ▸ ha)
  have d2 : ¬ a = e := fun x => hne (x ▸ ha)
  have d3 : ¬ e = nx a := fun x => hne (x ▸ hn)
  have d4 : ¬ nx a = e := fun x => hne (x ▸ hn)
  have d5 : ¬ e = l := fun x => hne (by simp [x])
  have d6 : ¬ l = e := fun x => hne (by simp [x])
  clear h hne he ha hn
  go_enter Try.func40, Try.ntmps40
  go_wp2
  go_ret
  exact ⟨rfl, rfl⟩
end

end Go.Proofs.Ythgghafndabpfaa
