/- The walks of Do and around. -/
import Derived.Test.YthgghafndabpfaaAround
namespace Go.Proofs.Ythgghafndabpfaa
open Go.RowKit

/-- All blocks of ring elements are as they were. -/
def KeepR (w w' : World) : Prop := ∀ (b : Nat) (cs : Array Value), w.heap[b]? = some (.cells cs 50 (0, 0)) → w'.heap[b]? = some (.cells cs 50 (0, 0))
theorem KeepR.refl (w : World) : KeepR w w := fun _ _ h => h
theorem KeepR.trans {a b c : World} (h : KeepR a b) (k : KeepR b c) : KeepR a c := fun x cs e => k x cs (h x cs e)
theorem KeepR.ring {w w' : World} (hk : KeepR w w') {D : Nat → Prop} {ad nx pv : Nat → Nat} {val : Nat → Value} (h : Ring w D ad nx pv val) : Ring w' D ad nx pv val := by
  refine ⟨fun i hi => ?_, h.inj, h.nxD, h.pvD, h.pn, h.np⟩
  obtain ⟨a, c, e, r⟩ := h.node i hi
  exact ⟨a, c, hk _ _ e, r⟩
theorem KeepR.inited {w w' : World} (hk : KeepR w w') {b : Nat} (h : Inited w b) : Inited w' b := by
  obtain ⟨n, p, v, h⟩ := h
  exact ⟨n, p, v, hk _ _ h⟩

/-- A captured variable that holds a slice of ints of one's own. -/
def Acc (w : World) (cb base : Nat) (xs : List Int) : Prop := ∃ s, w.heap[cb]? = some (.cells #[s] 23 (0, 0)) ∧ OwnI w base s xs

/-- What one call of the closure does. -/
structure Step (w : World) (cb base : Nat) (xs : List Int) (w' : World) : Prop where
  acc : Acc w' cb base xs
  keep : KeepR w w'
  bl : Below base w w'

theorem Acc.chg {w w' : World} {cb base : Nat} {xs : List Int} {S : Nat → Prop} (h : Acc w cb base xs) (hc : Chg S w w') (hs : ∀ b c t f, w.heap[b]? = some (.cells c t f) → t ≠ 50 → ¬ S b) : Acc w' cb base xs := by
  obtain ⟨s, h1, h2⟩ := h
  refine ⟨s, (hc.block cb (lt_of_heap h1) (hs _ _ _ _ h1 (by decide))).trans h1, own_chg h2 hc fun g hg => ?_⟩
  rcases h2.2 with ⟨rfl, _⟩ | ⟨g', cap, cur, rfl, _, hh, _⟩
  · simp [Value.ownBlock] at hg
  · simp [Value.ownBlock] at hg
    subst hg
    exact hs _ _ _ _ hh (by decide)

theorem one_one (x : Int) : ∀ y ∈ [Value.int .i64 x], y.oneCell' = true := by
  intro y hy; simp at hy; subst hy; rfl
theorem acc_ne {w : World} {base : Nat} {s : Value} {xs : List Int} {cb : Nat} {cs : Array Value} (h : OwnI w base s xs) (hc : w.heap[cb]? = some (.cells cs 23 (0, 0))) : s.ownBlock ≠ some cb := by
  intro e
  rcases h.2 with ⟨rfl, _⟩ | ⟨g', cap, cur, rfl, _, hh, _⟩
  · simp [Value.ownBlock] at e
  · simp [Value.ownBlock] at e
    subst e
    rw [hc] at hh
    simp at hh
/-- A slice of one's own, grown, and stored back into the variable. -/
theorem acc_step {w wa w1 : World} {base cb : Nat} {s v1 : Value} {xs : List Int} {x : Int} (h1 : w.heap[cb]? = some (.cells #[s] 23 (0, 0))) (h2 : OwnI w base s xs) (hcb : base ≤ cb) (ha : Chg (fun _ => False) w wa) (hc : Chg (fun k => s.ownBlock = some k) wa w1)
    (ho : w1.ownsRow base 3 1 v1 (xs.length + 1) (xs.map (Value.int .i64) ++ [.int .i64 x])) : Step w cb base (xs ++ [x]) (w1.setCell ⟨cb, 0, none⟩ v1) := by
  have hc' : Chg (fun k => s.ownBlock = some k) w w1 := (ha.mono (fun _ h _ => h.elim)).trans hc
  have hne := acc_ne h2 h1
  have hh1 : w1.heap[cb]? = some (.cells #[s] 23 (0, 0)) := (hc'.block cb (lt_of_heap h1) hne).trans h1
  have hne1 := acc_ne (OwnI.snoc ho) hh1
  refine ⟨⟨v1, ?_, ?_⟩, ?_, ?_⟩
  · rw [heap_setCell_same hh1]; rfl
  · exact own_keep (OwnI.snoc ho) fun g hg => Below.heap_setCell _ _ _ _ (fun e => hne1 (by rw [hg, e]))
  · intro b cs hb
    have hbs : ¬ s.ownBlock = some b := by
      intro e
      rcases h2.2 with ⟨rfl, _⟩ | ⟨g', cap, cur, rfl, _, hh, _⟩
      · simp [Value.ownBlock] at e
      · simp [Value.ownBlock] at e
        subst e
        rw [hb] at hh
        simp at hh
    have hbc : b ≠ cb := by
      rintro rfl
      rw [hb] at h1
      simp at h1
    rw [Below.heap_setCell _ _ _ _ hbc]
    exact (hc'.block b (lt_of_heap hb) hbs).trans hb
  · have hb1 : Below base w w1 := ⟨hc'.os, hc'.tape, hc'.output, hc'.size, fun k hk => by
      rcases Nat.lt_or_ge k w.heap.size with h | h
      · exact hc'.block k h (fun e => by have := (own_lt h2 k e).1; omega)
      · exfalso; have := lt_of_heap h1; omega⟩
    exact hb1.setCell hcb _

set_option maxRecDepth 100000 in
set_option maxHeartbeats 1000000 in
theorem around1_any (x : Int) (cb base : Nat) (xs : List Int) (w : World) (h : Acc w cb base xs) (hcb : base ≤ cb) (hl : xs.length < 17592186043904) :
    Calls Try.prog 39 #[I x, P cb] w fun e w' => e = .returned (.tuple #[]) ∧ Step w cb base (xs ++ [x]) w' := by
  obtain ⟨s, h1, h2⟩ := h
  obtain ⟨i0, hi, hz0, hz1, hz2⟩ := info_parts intInfo
  have H1 := Lib.hid h1
  have H2 := Lib.hid h2
  have c0 : w.cell? ⟨cb, 0, none⟩ = some s := by rw [cell_of_heap h1]; rfl
  have hta := run_assert_int x
  obtain ⟨A, c, hs, _, _, _⟩ := own_open h2
  subst hs
  have hlt := lt_of_heap h1
  clear h1 h2
  go_enter Try.func39, Try.ntmps39
  go_region_law (first
    | (refine step_cat _ rfl (.tmp 3) (.tmp 6) _ rfl base 3 i0 _ 1 8 Try.underlying23 hi hz0 hz1 hz2 rfl (by decide) (.slice A xs.length c) xs.length (xs.map (Value.int .i64)) rfl (own_bl H2.out (bl_drew (bl_alloc (bl_refl w) _))) _ 1 [.int .i64 x] rfl (sl_one (World.cell?_alloc_new w _ _ 0)) (one_one _) (by unfold maxLen; omega) (by omega) (by simp; omega) ?_
       intro v1 w1 o1 c1 l1
       have hne : (Value.slice A xs.length c).ownBlock ≠ some cb := acc_ne H2.out H1.out
       have hh1 : w1.heap[cb]? = some (.cells #[.slice A xs.length c] 23 (0, 0)) := (c1.block cb (by simp; omega) hne).trans ((Below.heap_alloc w _ cb hlt).trans H1.out)
       have e0 : w1.cell? ⟨cb, 0, none⟩ = some (.slice A xs.length c) := by rw [cell_of_heap hh1]; rfl
       have f0 : w1.frozen? ⟨cb, 0, none⟩ = false := frozen_of_heap hh1
       obtain ⟨A1, cc1, hv1, _, _, _⟩ := own_open o1
       subst hv1
       have HST := Lib.hid (acc_step H1.out H2.out hcb (chg_of_bl (bl_drew (bl_alloc (bl_refl w) _)) _) c1 o1)
       clear o1 c1 l1 hne hh1))
  all_goals
    go_wp2
    go_end0
    exact ⟨rfl, HST.out⟩

theorem kept_acc {w w' : World} {D : Nat → Prop} {ad nx pv nx0 pv0 : Nat → Nat} {val val0 : Nat → Value} (h0 : Ring w D ad nx0 pv0 val0) (hk : Kept w D ad nx pv val w') {cb base : Nat} {xs : List Int} (ha : Acc w cb base xs) : Acc w' cb base xs :=
  ha.chg hk.chg fun b c t f hb ht ⟨i, hi, e⟩ => by
    subst e
    obtain ⟨a, c', e', _⟩ := h0.node i hi
    rw [hb] at e'
    simp at e'
    exact ht e'.2.1

/-- What Do with this closure does. -/
structure Done (w : World) (D : Nat → Prop) (ad nx pv : Nat → Nat) (val : Nat → Value) (cb base : Nat) (xs : List Int) (w' : World) : Prop where
  acc : Acc w' cb base xs
  ring : Ring w' D ad nx pv val
  inited : ∀ b, Inited w b → Inited w' b
  chg : Chg (fun k => At D ad k ∨ base ≤ k) w w'

theorem chg_of_below {base : Nat} {w w' : World} (h : Below base w w') (S : Nat → Prop) : Chg (fun k => S k ∨ base ≤ k) w w' :=
  ⟨h.os, h.tape, h.output, h.size, fun k _ hn => h.block k (by rcases Nat.lt_or_ge k base with h' | h'; exact h'; exact absurd (.inr h') hn)⟩

set_option maxRecDepth 100000 in
set_option maxHeartbeats 2000000 in
theorem do_around {w : World} {D : Nat → Prop} {ad nx pv : Nat → Nat} {val : Nat → Value} (hr : Ring w D ad nx pv val) {r : Nat} (hd : D r) (A : List Nat) (hp : Path nx r (r :: A) r) (hnd : r ∉ A) (hA : ∀ x ∈ A, D x) (iv : Nat → Int) (hv : ∀ x, D x → val x = I (iv x))
    (cb base : Nat) (hcb : base ≤ cb) (xs : List Int) (ha : Acc w cb base xs) (hl : xs.length + A.length < 17592186043904) :
    Calls Try.prog 38 #[P (ad r), .func (.func 39) #[] #[P cb]] w fun e w' => e = .returned (.tuple #[]) ∧ Done w D ad nx pv val cb base (xs ++ (r :: A).map iv) w' := by
  have HR := Lib.hid hr
  have HP := Lib.hid hp
  have HA := Lib.hid hA
  have HV := Lib.hid hv
  have HACC := Lib.hid ha
  have c2 : w.cell? ⟨ad r, 2, none⟩ = some (I (iv r)) := by
    obtain ⟨a, c, e, _⟩ := hr.node r hd
    rw [cell_of_heap e, hv r hd]; rfl
  clear hr hp hA hv ha
  go_enter Try.func38, Try.ntmps38
  go_wp2_with fail
  refine (around1_any (iv r) cb base xs _ HACC.out hcb (by omega)).mono ?_
  rintro e w1 ⟨rfl, s1⟩
  have S1 := Lib.hid s1
  clear s1
  go_wp2_with fail
  refine (next_ring (S1.out.keep.ring HR.out) hd).mono ?_
  rintro e w2 ⟨rfl, k2, i2⟩
  have K2 := Lib.hid k2
  have I2 := Lib.hid i2
  have A2 := Lib.hid (kept_acc (S1.out.keep.ring HR.out) k2 S1.out.acc)
  have C2 := Lib.hid ((chg_of_below S1.out.bl (At D ad)).trans (k2.chg.mono fun k h _ => .inl h))
  have N2 : Hid (∀ b, Inited w b → Inited w2 b) := fun b hb => k2.inited b (S1.out.keep.inited hb)
  clear k2 i2
  go_wp2
  go_loopg [4] A.length (fun g p wr => ∃ j q, j + g = A.length ∧ p = P (ad q) ∧ Path nx q (A.drop j) r ∧ Acc wr cb base (xs ++ (r :: A.take j).map iv) ∧ Ring wr D ad nx pv val ∧ (∀ b, Inited w2 b → Inited wr b) ∧ Chg (fun k => At D ad k ∨ base ≤ k) w wr)
  case atStart => exact ⟨0, nx r, by omega, rfl, HP.out.2, A2.out, K2.out.ring, fun _ h => h, C2.out⟩
  case round =>
    obtain ⟨j, q, hj, rfl, hpq, hacc, hring, hin, hchg⟩ := hrel
    have HJ := Lib.hid hj
    have HAC := Lib.hid hacc
    have HRR := Lib.hid hring
    have HIN := Lib.hid hin
    have HCH := Lib.hid hchg
    clear hacc hring hin hchg
    by_cases hlt : j < A.length
    · rw [List.drop_eq_getElem_cons hlt] at hpq
      obtain ⟨rfl, hp2⟩ := hpq
      have HP2 := Lib.hid hp2
      have hm : A[j] ∈ A := List.getElem_mem hlt
      have hDm := HA.out _ hm
      have hne := HRR.out.neq hDm hd (fun e => hnd (e ▸ hm))
      have c3 : wr.cell? ⟨ad A[j], 2, none⟩ = some (I (iv A[j])) := by
        obtain ⟨a, c, e, _⟩ := HRR.out.node _ hDm
        rw [cell_of_heap e, HV.out _ hDm]; rfl
      have hini : Inited wr (ad A[j]) := by
        have h1 := HRR.out.inited_iter_nx hd (HIN.out _ I2.out) (j + 1)
        have h2 : Path nx r (r :: A.take j) (A[j]) := by
          have h3 := HP.out
          rw [← List.take_append_drop j A, ← List.cons_append, Path.append_iff] at h3
          obtain ⟨c, h4, h5⟩ := h3
          rw [List.drop_eq_getElem_cons hlt] at h5
          rw [← h5.1]; exact h4
        have h3 := h2.iter
        rw [List.length_cons, List.length_take, Nat.min_eq_left (by omega)] at h3
        rw [← h3]; exact h1
      have HNO := Lib.hid (HRR.out.inode hDm hini)
      have HS := Lib.hid (List.take_succ_eq_append_getElem hlt)
      have hlen : (xs ++ (r :: A.take j).map iv).length < 17592186043904 := by
        simp only [List.length_append, List.length_map, List.length_cons, List.length_take]
        omega
      clear hp2 hini hm hj
      generalize A[j] = q at *
      go_wp2_with fail
      refine (around1_any (iv q) cb base _ _ HAC.out hcb hlen).mono ?_
      rintro e w3 ⟨rfl, s3⟩
      have S3 := Lib.hid s3
      have c0 : w3.cell? ⟨ad q, 0, none⟩ = some (P (ad (nx q))) := by
        have h := s3.keep _ _ HNO.out
        rw [cell_of_heap h]; rfl
      clear s3 c3 hne
      go_wp2
      go_roundg (A.length - (j + 1))
      case rel =>
        refine ⟨j + 1, _, by omega, rfl, HP2.out, ?_, S3.out.keep.ring HRR.out, fun b hb => S3.out.keep.inited (HIN.out b hb), HCH.out.trans (chg_of_below S3.out.bl _)⟩
        have h := S3.out.acc
        rw [HS.out, ← List.cons_append, List.map_append, ← List.append_assoc]
        exact h
      case measure => have := HJ.out; omega
    · have hje : j = A.length := by omega
      subst hje
      rw [List.drop_length] at hpq
      have e : q = r := hpq
      subst e
      have hne := run_neq_same (ad q) wr
      rw [List.take_length] at HAC
      clear hpq hj
      go_wp2
      go_end0
      exact ⟨rfl, HAC.out, HRR.out, fun b hb => HIN.out b (N2.out b hb), HCH.out⟩

/-- What around gives: the values of a ring; the ring is as it was. -/
def Around (w : World) (D : Nat → Prop) (ad nx pv : Nat → Nat) (val : Nat → Value) (xs : List Int) (e : Ending) (w' : World) : Prop :=
  ∃ v, e = .returned v ∧ OwnI w' w.heap.size v xs ∧ Ring w' D ad nx pv val ∧ (∀ b, Inited w b → Inited w' b) ∧ Chg (At D ad) w w'

set_option maxRecDepth 100000 in
set_option maxHeartbeats 1000000 in
theorem around_any {w : World} {D : Nat → Prop} {ad nx pv : Nat → Nat} {val : Nat → Value} (hr : Ring w D ad nx pv val) {r : Nat} (hd : D r) (A : List Nat) (hp : Path nx r (r :: A) r) (hnd : r ∉ A) (hA : ∀ x ∈ A, D x) (iv : Nat → Int) (hv : ∀ x, D x → val x = I (iv x))
    (hl : A.length < 17592186043904) : Calls Try.prog 28 #[P (ad r)] w (Around w D ad nx pv val ((r :: A).map iv)) := by
  have HR := Lib.hid hr
  have HP := Lib.hid hp
  have HA := Lib.hid hA
  have HV := Lib.hid hv
  clear hr hp hA hv
  go_enter Try.func28, Try.ntmps28
  go_wp2_with fail
  obtain ⟨W, hW⟩ : ∃ W, W = (w.alloc (.cells #[] 3)).alloc (.cells #[.slice (some ⟨w.heap.size, 0, none⟩) 0 0] 23) := ⟨_, rfl⟩
  rw [← hW]
  have hb : Bl w W := by rw [hW]; exact bl_alloc (bl_alloc (bl_refl _) _) _
  have hacc : Acc W (w.heap.size + 1) w.heap.size [] := by
    refine ⟨.slice (some ⟨w.heap.size, 0, none⟩) 0 0, ?_, ?_⟩
    · rw [hW]
      have h := heap_alloc_new (w.alloc (.cells #[] 3)) (.cells #[.slice (some ⟨w.heap.size, 0, none⟩) 0 0] 23)
      rwa [World.size_alloc] at h
    · rw [hW]; exact (own_empty w 3 1).alloc _
  clear hW
  refine (do_around (HR.out.bl hb) hd A HP.out hnd HA.out iv HV.out _ w.heap.size (by omega) [] hacc (by simpa using hl)).mono ?_
  rintro e w1 ⟨rfl, d1⟩
  obtain ⟨s, hs, hown⟩ := d1.acc
  have c0 : w1.cell? ⟨w.heap.size + 1, 0, none⟩ = some s := by rw [cell_of_heap hs]; rfl
  have hown' : w1.ownsRow w.heap.size 3 1 s (A.length + 1) (((r :: A).map iv).map (Value.int .i64)) := by
    have h := hown
    unfold OwnI at h
    rw [List.nil_append, List.length_map, List.length_cons] at h
    exact h
  obtain ⟨A1, c1, hs1, _, _, _⟩ := own_open hown'
  subst hs1
  have HO := Lib.hid hown'
  have HD := Lib.hid d1
  have HBW := Lib.hid hb
  clear hown hown' d1 hb hacc hs
  go_wp2
  go_ret
  refine ⟨_, rfl, (by unfold OwnI; rw [List.length_map, List.length_cons]; exact HO.out), HD.out.ring, fun b hb => HD.out.inited b ?_, ?_⟩
  · obtain ⟨n, p, v, h⟩ := hb
    exact ⟨n, p, v, (HBW.out.block b (lt_of_heap h)).trans h⟩
  · exact (chg_of_bl HBW.out _).then HD.out.chg fun i hi hlt => hi.resolve_right (by omega)

end Go.Proofs.Ythgghafndabpfaa
