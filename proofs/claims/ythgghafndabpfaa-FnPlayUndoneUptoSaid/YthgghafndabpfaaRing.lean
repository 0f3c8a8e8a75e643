/- The contracts of container/ring: what init, Next, Prev and Link do to rings in memory. -/
import Derived.Test.YthgghafndabpfaaMem
import Derived.Test.YthgghafndabpfaaPath
namespace Go.Proofs.Ythgghafndabpfaa
open Go.RowKit

/-- A ring element at block b: initialized, or not yet and alone. -/
def Node (w : World) (b n p : Nat) (v : Value) : Prop :=
  ∃ a c : Value, w.heap[b]? = some (.cells #[a, c, v] 50 (0, 0)) ∧ ((a = P n ∧ c = P p) ∨ (a = .pointer none ∧ c = .pointer none ∧ n = b ∧ p = b))

/-- The elements in D, each i at the block ad i, are rings: nx is the next one, pv the one ahead. -/
structure Ring (w : World) (D : Nat → Prop) (ad nx pv : Nat → Nat) (val : Nat → Value) : Prop where
  node : ∀ i, D i → Node w (ad i) (ad (nx i)) (ad (pv i)) (val i)
  inj : ∀ i j, D i → D j → ad i = ad j → i = j
  nxD : ∀ i, D i → D (nx i)
  pvD : ∀ i, D i → D (pv i)
  pn : ∀ i, D i → pv (nx i) = i
  np : ∀ i, D i → nx (pv i) = i

/-- The blocks of the elements. -/
def At (D : Nat → Prop) (ad : Nat → Nat) (k : Nat) : Prop := ∃ i, D i ∧ k = ad i
theorem At.mk {D : Nat → Prop} {ad : Nat → Nat} {i : Nat} (h : D i) : At D ad (ad i) := ⟨i, h, rfl⟩

set_option maxRecDepth 100000 in
set_option maxHeartbeats 400000 in
theorem init_any (b : Nat) (x0 x1 x2 : Value) (w : World) (h : w.heap[b]? = some (.cells #[x0, x1, x2] 50 (0, 0))) :
    Calls Try.prog 35 #[P b] w fun e w' => e = .returned (P b) ∧ (w.setCell ⟨b, 0, none⟩ (P b)).setCell ⟨b, 1, none⟩ (P b) = w' := by
  have c0 : w.cell? ⟨b, 0, none⟩ = some x0 := by simp [World.cell?, h]
  have c1 : w.cell? ⟨b, 1, none⟩ = some x1 := by simp [World.cell?, h]
  have f0 : ∀ i, w.frozen? ⟨b, i, none⟩ = false := fun i => by simp [World.frozen?, h]
  clear h
  go_enter Try.func35, Try.ntmps35
  go_wp2
  go_ret
  exact ⟨rfl, rfl⟩

/-- An initialized element. -/
def INode (w : World) (b n p : Nat) (v : Value) : Prop := w.heap[b]? = some (.cells #[P n, P p, v] 50 (0, 0))

theorem INode.nx {w : World} {b n p : Nat} {v : Value} (h : INode w b n p v) (n' : Nat) : INode (w.setCell ⟨b, 0, none⟩ (P n')) b n' p v := by
  unfold INode at *; rw [heap_setCell_same h]; simp
theorem INode.pv {w : World} {b n p : Nat} {v : Value} (h : INode w b n p v) (p' : Nat) : INode (w.setCell ⟨b, 1, none⟩ (P p')) b n p' v := by
  unfold INode at *; rw [heap_setCell_same h]; simp
theorem INode.far {w : World} {b n p : Nat} {v : Value} (h : INode w b n p v) {a : Addr} (ha : b ≠ a.block) (u : Value) : INode (w.setCell a u) b n p v := by
  unfold INode at *; rw [Below.heap_setCell _ _ _ _ ha]; exact h

def Inited (w : World) (b : Nat) : Prop := ∃ n p v, INode w b n p v
theorem Inited.nx {w : World} {b : Nat} (h : Inited w b) (c n' : Nat) : Inited (w.setCell ⟨c, 0, none⟩ (P n')) b := by
  obtain ⟨n, p, v, h⟩ := h
  by_cases hc : b = c
  · subst hc; exact ⟨_, _, _, h.nx n'⟩
  · exact ⟨_, _, _, h.far hc _⟩
theorem Inited.pv {w : World} {b : Nat} (h : Inited w b) (c n' : Nat) : Inited (w.setCell ⟨c, 1, none⟩ (P n')) b := by
  obtain ⟨n, p, v, h⟩ := h
  by_cases hc : b = c
  · subst hc; exact ⟨_, _, _, h.pv n'⟩
  · exact ⟨_, _, _, h.far hc _⟩
theorem Inited.cell0 {w : World} {b : Nat} (h : Inited w b) : ∃ x, w.cell? ⟨b, 0, none⟩ = some x := by
  obtain ⟨n, p, v, h⟩ := h; exact ⟨_, by rw [cell_of_heap h]; rfl⟩
theorem Inited.cell1 {w : World} {b : Nat} (h : Inited w b) : ∃ x, w.cell? ⟨b, 1, none⟩ = some x := by
  obtain ⟨n, p, v, h⟩ := h; exact ⟨_, by rw [cell_of_heap h]; rfl⟩
theorem Inited.frozen {w : World} {b i : Nat} (h : Inited w b) : w.frozen? ⟨b, i, none⟩ = false := by
  obtain ⟨n, p, v, h⟩ := h; exact frozen_of_heap h

/-- The ring's state is as told; only its elements' blocks may have been written; what was initialized is. -/
structure Kept (w : World) (D : Nat → Prop) (ad nx pv : Nat → Nat) (val : Nat → Value) (w' : World) : Prop where
  ring : Ring w' D ad nx pv val
  chg : Chg (At D ad) w w'
  size : w'.heap.size = w.heap.size
  inited : ∀ b, Inited w b → Inited w' b

section
variable {w w' : World} {D : Nat → Prop} {ad nx pv : Nat → Nat} {val : Nat → Value}

theorem Kept.refl (h : Ring w D ad nx pv val) : Kept w D ad nx pv val w := ⟨h, Chg.refl _ _, rfl, fun _ h => h⟩
theorem Kept.after {w0 : World} {nx0 pv0 : Nat → Nat} {val0 : Nat → Value} (h0 : Kept w0 D ad nx0 pv0 val0 w) (h : Kept w D ad nx pv val w') : Kept w0 D ad nx pv val w' :=
  ⟨h.ring, h0.chg.trans h.chg, h.size.trans h0.size, fun b hb => h.inited b (h0.inited b hb)⟩

/-- A ring is there as long as its blocks are as they were. -/
theorem Ring.keep (h : Ring w D ad nx pv val) (hk : ∀ i, D i → w'.heap[ad i]? = w.heap[ad i]?) : Ring w' D ad nx pv val := by
  refine ⟨fun i hi => ?_, h.inj, h.nxD, h.pvD, h.pn, h.np⟩
  obtain ⟨a, c, e, r⟩ := h.node i hi
  exact ⟨a, c, (hk i hi).trans e, r⟩
theorem Ring.lt (h : Ring w D ad nx pv val) {i : Nat} (hi : D i) : ad i < w.heap.size := by
  obtain ⟨a, c, e, _⟩ := h.node i hi
  exact lt_of_heap e
theorem Ring.bl (h : Ring w D ad nx pv val) (hb : Bl w w') : Ring w' D ad nx pv val := h.keep fun _ hi => hb.block _ (h.lt hi)
theorem Ring.chg {S : Nat → Prop} (h : Ring w D ad nx pv val) (hb : Chg S w w') (hs : ∀ i, D i → ¬ S (ad i)) : Ring w' D ad nx pv val := h.keep fun i hi => hb.block _ (h.lt hi) (hs i hi)
/-- A slice of another element type lies elsewhere. -/
theorem Ring.ne_own {base : Nat} {e : TypeId} {sz n : Nat} {v : Value} {cs : List Value} (h : Ring w D ad nx pv val) (hv : w.ownsRow base e sz v n cs) (he : e ≠ 50) : ∀ i, D i → v.ownBlock ≠ some (ad i) := by
  intro i hi hb
  obtain ⟨a, c, hh, _⟩ := h.node i hi
  rcases hv.2 with ⟨rfl, _⟩ | ⟨g1, cap, cur, rfl, _, hg, _⟩
  · simp [Value.ownBlock] at hb
  · simp [Value.ownBlock] at hb
    subst hb
    rw [hh] at hg
    simp at hg
    exact he hg.2.symm
theorem Kept.own {base : Nat} {e : TypeId} {sz n : Nat} {v : Value} {cs : List Value} (h : Kept w D ad nx pv val w') {nx0 pv0 : Nat → Nat} {val0 : Nat → Value} (h0 : Ring w D ad nx0 pv0 val0)
    (hv : w.ownsRow base e sz v n cs) (he : e ≠ 50) : w'.ownsRow base e sz v n cs :=
  own_chg hv h.chg fun g hg ⟨i, hi, e'⟩ => by subst e'; exact h0.ne_own hv he i hi hg

theorem Ring.inode (h : Ring w D ad nx pv val) {i : Nat} (hd : D i) (hi : Inited w (ad i)) : INode w (ad i) (ad (nx i)) (ad (pv i)) (val i) := by
  obtain ⟨a, c, e, hac⟩ := h.node i hd
  obtain ⟨n, p, v, hi⟩ := hi
  unfold INode at *
  rw [e] at hi
  simp at hi
  obtain ⟨rfl, rfl, rfl⟩ := hi
  rcases hac with ⟨h1, h2⟩ | ⟨h, _⟩
  · rw [← h1, ← h2]; exact e
  · simp at h

theorem Ring.inited_nx (h : Ring w D ad nx pv val) {i : Nat} (hd : D i) (hi : Inited w (ad i)) : Inited w (ad (nx i)) := by
  obtain ⟨a, c, e, hac⟩ := h.node (nx i) (h.nxD i hd)
  rcases hac with ⟨rfl, rfl⟩ | ⟨_, _, _, h2⟩
  · exact ⟨_, _, _, e⟩
  · rw [h.pn i hd] at h2; rw [← h2]; exact hi
theorem Ring.inited_pv (h : Ring w D ad nx pv val) {i : Nat} (hd : D i) (hi : Inited w (ad i)) : Inited w (ad (pv i)) := by
  obtain ⟨a, c, e, hac⟩ := h.node (pv i) (h.pvD i hd)
  rcases hac with ⟨rfl, rfl⟩ | ⟨_, _, h2, _⟩
  · exact ⟨_, _, _, e⟩
  · rw [h.np i hd] at h2; rw [← h2]; exact hi

theorem Ring.init (h : Ring w D ad nx pv val) {i : Nat} (hd : D i) {v0 v1 v2 : Value}
    (hh : w.heap[ad i]? = some (.cells #[v0, v1, v2] 50 (0, 0))) (hn : ad (nx i) = ad i) (hp : ad (pv i) = ad i) :
    Kept w D ad nx pv val ((w.setCell ⟨ad i, 0, none⟩ (P (ad i))).setCell ⟨ad i, 1, none⟩ (P (ad i))) ∧ Inited ((w.setCell ⟨ad i, 0, none⟩ (P (ad i))).setCell ⟨ad i, 1, none⟩ (P (ad i))) (ad i) := by
  have hself : ((w.setCell ⟨ad i, 0, none⟩ (P (ad i))).setCell ⟨ad i, 1, none⟩ (P (ad i))).heap[ad i]? = some (.cells #[P (ad i), P (ad i), v2] 50 (0, 0)) := by
    rw [heap_setCell_same (heap_setCell_same hh _)]; simp
  refine ⟨⟨⟨fun j hj => ?_, h.inj, h.nxD, h.pvD, h.pn, h.np⟩, ((Chg.refl _ _).setCell (At.mk hd) _).setCell (At.mk hd) _, by simp, fun c hc => (hc.nx _ _).pv _ _⟩, _, _, _, hself⟩
  obtain ⟨a, d, e1, e2⟩ := h.node j hj
  by_cases hcb : j = i
  · subst hcb
    rw [hh] at e1
    simp at e1
    obtain ⟨_, _, rfl⟩ := e1
    exact ⟨P (ad j), P (ad j), hself, .inl ⟨by rw [hn], by rw [hp]⟩⟩
  · have hne : ad j ≠ ad i := fun e => hcb (h.inj j i hj hd e)
    refine ⟨a, d, ?_, e2⟩
    rw [Below.heap_setCell _ _ _ _ hne, Below.heap_setCell _ _ _ _ hne]
    exact e1

set_option maxRecDepth 100000 in
set_option maxHeartbeats 400000 in
theorem next_ring (hr : Ring w D ad nx pv val) {i : Nat} (hd : D i) :
    Calls Try.prog 25 #[P (ad i)] w fun e w' => e = .returned (P (ad (nx i))) ∧ Kept w D ad nx pv val w' ∧ Inited w' (ad i) := by
  obtain ⟨a, c, hh, hac⟩ := hr.node i hd
  have c0 : w.cell? ⟨ad i, 0, none⟩ = some a := by simp [World.cell?, hh]
  have c1 : w.cell? ⟨ad i, 1, none⟩ = some c := by simp [World.cell?, hh]
  rcases hac with ⟨rfl, rfl⟩ | ⟨rfl, rfl, hn, hp⟩
  · have R := Lib.hid hr
    have I := Lib.hid hh
    clear hr hh
    go_enter Try.func25, Try.ntmps25
    go_wp2
    go_ret
    exact ⟨rfl, Kept.refl R.out, _, _, _, I.out⟩
  · have HH := Lib.hid hh
    have R := Lib.hid (hr.init hd hh hn hp)
    have N := Lib.hid hn
    clear hh hn hp hr
    go_enter Try.func25, Try.ntmps25
    go_wp2_with (go_at_call 35; refine (init_any _ _ _ _ _ HH.out).mono ?_; rintro e w' ⟨rfl, rfl⟩)
    go_ret
    exact ⟨by rw [N.out]; rfl, R.out⟩

set_option maxRecDepth 100000 in
set_option maxHeartbeats 400000 in
theorem prev_ring (hr : Ring w D ad nx pv val) {i : Nat} (hd : D i) :
    Calls Try.prog 27 #[P (ad i)] w fun e w' => e = .returned (P (ad (pv i))) ∧ Kept w D ad nx pv val w' ∧ Inited w' (ad i) := by
  obtain ⟨a, c, hh, hac⟩ := hr.node i hd
  have c0 : w.cell? ⟨ad i, 0, none⟩ = some a := by simp [World.cell?, hh]
  have c1 : w.cell? ⟨ad i, 1, none⟩ = some c := by simp [World.cell?, hh]
  rcases hac with ⟨rfl, rfl⟩ | ⟨rfl, rfl, hn, hp⟩
  · have R := Lib.hid hr
    have I := Lib.hid hh
    clear hr hh
    go_enter Try.func27, Try.ntmps27
    go_wp2
    go_ret
    exact ⟨rfl, Kept.refl R.out, _, _, _, I.out⟩
  · have HH := Lib.hid hh
    have R := Lib.hid (hr.init hd hh hn hp)
    have N := Lib.hid hp
    clear hh hn hp hr
    go_enter Try.func27, Try.ntmps27
    go_wp2_with (go_at_call 35; refine (init_any _ _ _ _ _ HH.out).mono ?_; rintro e w' ⟨rfl, rfl⟩)
    go_ret
    exact ⟨by rw [N.out]; rfl, R.out⟩

/-- What Link makes of the next ones, and of those ahead. -/
def lnx (nx pv : Nat → Nat) (r s : Nat) : Nat → Nat := upd (upd nx r s) (pv s) (nx r)
def lpv (nx pv : Nat → Nat) (r s : Nat) : Nat → Nat := upd (upd pv s r) (nx r) (pv s)

def Nodes (w : World) (D : Nat → Prop) (ad nx pv : Nat → Nat) (val : Nat → Value) : Prop := ∀ i, D i → Node w (ad i) (ad (nx i)) (ad (pv i)) (val i)

theorem Nodes.set0 (h : Nodes w D ad nx pv val) (inj : ∀ i j, D i → D j → ad i = ad j → i = j) {r : Nat} (hr : D r) (hi : Inited w (ad r)) (s : Nat) :
    Nodes (w.setCell ⟨ad r, 0, none⟩ (P (ad s))) D ad (upd nx r s) pv val := by
  intro b hb
  obtain ⟨a, c, e, hac⟩ := h b hb
  by_cases hbr : b = r
  · subst hbr
    obtain ⟨n, p, v, hi⟩ := hi
    unfold INode at hi
    rw [hi] at e
    simp at e
    obtain ⟨rfl, rfl, rfl⟩ := e
    rcases hac with ⟨_, h2⟩ | ⟨h1, _⟩
    · exact ⟨P (ad s), P p, by rw [heap_setCell_same hi]; simp, .inl ⟨by rw [upd_same], h2⟩⟩
    · simp at h1
  · refine ⟨a, c, by rw [Below.heap_setCell _ _ _ _ (fun e => hbr (inj b r hb hr e))]; exact e, ?_⟩
    rw [upd_other _ _ hbr]; exact hac
theorem Nodes.set1 (h : Nodes w D ad nx pv val) (inj : ∀ i j, D i → D j → ad i = ad j → i = j) {r : Nat} (hr : D r) (hi : Inited w (ad r)) (s : Nat) :
    Nodes (w.setCell ⟨ad r, 1, none⟩ (P (ad s))) D ad nx (upd pv r s) val := by
  intro b hb
  obtain ⟨a, c, e, hac⟩ := h b hb
  by_cases hbr : b = r
  · subst hbr
    obtain ⟨n, p, v, hi⟩ := hi
    unfold INode at hi
    rw [hi] at e
    simp at e
    obtain ⟨rfl, rfl, rfl⟩ := e
    rcases hac with ⟨h2, _⟩ | ⟨h1, _⟩
    · exact ⟨P n, P (ad s), by rw [heap_setCell_same hi]; simp, .inl ⟨h2, by rw [upd_same]⟩⟩
    · simp at h1
  · refine ⟨a, c, by rw [Below.heap_setCell _ _ _ _ (fun e => hbr (inj b r hb hr e))]; exact e, ?_⟩
    rw [upd_other _ _ hbr]; exact hac

/-- Link's exchange keeps nx and pv inverse to each other. -/
theorem link_inv (nxD : ∀ b, D b → D (nx b)) (pvD : ∀ b, D b → D (pv b)) (pn : ∀ b, D b → pv (nx b) = b) (np : ∀ b, D b → nx (pv b) = b)
    {r s : Nat} (hr : D r) (hs : D s) :
    (∀ b, D b → D (lnx nx pv r s b)) ∧ (∀ b, D b → D (lpv nx pv r s b)) ∧ (∀ b, D b → lpv nx pv r s (lnx nx pv r s b) = b) ∧ (∀ b, D b → lnx nx pv r s (lpv nx pv r s b) = b) := by
  have dn := nxD r hr
  have dp := pvD s hs
  have e1 := pn r hr
  have e2 := np s hs
  refine ⟨fun b hb => ?_, fun b hb => ?_, fun b hb => ?_, fun b hb => ?_⟩
  · unfold lnx upd
    have := nxD b hb
    grind
  · unfold lpv upd
    have := pvD b hb
    grind
  · unfold lnx lpv upd
    have := pn b hb
    grind
  · unfold lnx lpv upd
    have := np b hb
    grind

theorem link_world (hr : Ring w D ad nx pv val) {r s : Nat} (hb : D r) (hs : D s) (ir : Inited w (ad r)) (is : Inited w (ad s)) :
    Kept w D ad (lnx nx pv r s) (lpv nx pv r s) val ((((w.setCell ⟨ad r, 0, none⟩ (P (ad s))).setCell ⟨ad s, 1, none⟩ (P (ad r))).setCell ⟨ad (nx r), 1, none⟩ (P (ad (pv s)))).setCell ⟨ad (pv s), 0, none⟩ (P (ad (nx r)))) := by
  have hn := hr.inited_nx hb ir
  have hp := hr.inited_pv hs is
  have h1 := Nodes.set0 (D := D) (nx := nx) (pv := pv) (val := val) hr.node hr.inj hb ir s
  have h2 := h1.set1 hr.inj hs (is.nx _ _) r
  have h3 := h2.set1 hr.inj (hr.nxD _ hb) ((hn.nx _ _).pv _ _) (pv s)
  have h4 := h3.set0 hr.inj (hr.pvD _ hs) (((hp.nx _ _).pv _ _).pv _ _) (nx r)
  obtain ⟨l1, l2, l3, l4⟩ := link_inv hr.nxD hr.pvD hr.pn hr.np hb hs
  exact ⟨⟨h4, hr.inj, l1, l2, l3, l4⟩, ((((Chg.refl _ _).setCell (At.mk hb) _).setCell (At.mk hs) _).setCell (At.mk (hr.nxD _ hb)) _).setCell (At.mk (hr.pvD _ hs)) _, by simp, fun b h => (((h.nx _ _).pv _ _).pv _ _).nx _ _⟩

set_option maxRecDepth 100000 in
set_option maxHeartbeats 400000 in
theorem link_ring (hr : Ring w D ad nx pv val) {r s : Nat} (hb : D r) (hs : D s) :
    Calls Try.prog 37 #[P (ad r), P (ad s)] w fun e w' => e = .returned (P (ad (nx r))) ∧ Kept w D ad (lnx nx pv r s) (lpv nx pv r s) val w' ∧ Inited w' (ad r) ∧ Inited w' (ad s) := by
  have HR := Lib.hid hr
  clear hr
  go_enter Try.func37, Try.ntmps37
  go_wp2_with fail
  refine (next_ring HR.out hb).mono ?_
  rintro e w1 ⟨rfl, k1, i1⟩
  go_wp2_with fail
  refine (prev_ring k1.ring hs).mono ?_
  rintro e w2 ⟨rfl, k2, i2⟩
  have ir := k2.inited _ i1
  have hn := k2.ring.inited_nx hb ir
  have hp := k2.ring.inited_pv hs i2
  obtain ⟨x1, c1⟩ := ir.cell0
  obtain ⟨x2, c2⟩ := (i2.nx (ad r) (ad s)).cell1
  obtain ⟨x3, c3⟩ := ((hn.nx (ad r) (ad s)).pv (ad s) (ad r)).cell1
  obtain ⟨x4, c4⟩ := (((hp.nx (ad r) (ad s)).pv (ad s) (ad r)).pv (ad (nx r)) (ad (pv s))).cell0
  have f1 := ir.frozen (i := 0)
  have f2 := i2.frozen (i := 1)
  have f3 := hn.frozen (i := 1)
  have f4 := hp.frozen (i := 0)
  have L := Lib.hid (link_world k2.ring hb hs ir i2)
  go_wp2
  go_ret
  exact ⟨rfl, (k1.after k2).after L.out, L.out.inited _ ir, L.out.inited _ i2⟩

end

end Go.Proofs.Ythgghafndabpfaa
