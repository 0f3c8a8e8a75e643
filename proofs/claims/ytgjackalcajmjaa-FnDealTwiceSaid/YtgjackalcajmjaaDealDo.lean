/- The walk of Do with the closure of DealRing. -/
import Derived.Test.YtgjackalcajmjaaDealSpec
import Derived.Test.YtgjackalcajmjaaDo
namespace Go.Proofs.Ytgjackalcajmjaa
open Go.RowKit

theorem chg_below {base : Nat} {w w' : World} (h : Below base w w') (S : Nat → Prop) : Chg (fun k => S k ∨ base ≤ k) w w' :=
  ⟨h.os, h.tape, h.output, h.size, fun k _ hn => h.block k (by rcases Nat.lt_or_ge k base with h' | h'; exact h'; exact absurd (.inr h') hn)⟩

/-- The blocks of a list are no ring's. -/
theorem LC.ne_ring {w : World} {l : Nat} {es : List Nat} {vs : List Value} (h : LC w l es vs) {D : Nat → Prop} {ad nx pv : Nat → Nat} {val : Nat → Value} (hr : Ring w D ad nx pv val) : ∀ b ∈ l :: es, ¬ At D ad b := by
  obtain ⟨nx', pv', val', hst, _⟩ := h
  rintro b hb ⟨i, hi, rfl⟩
  obtain ⟨a, c, e, _⟩ := hr.node i hi
  rcases List.mem_cons.1 hb with h1 | h1
  · obtain ⟨cs, ec⟩ := hst.head
    rw [← h1, e] at ec; simp at ec
  · obtain ⟨cs, ec⟩ := hst.elem _ h1
    rw [e] at ec; simp at ec

/-- A captured variable that holds a slice of slices of one's own. -/
def AccS (w : World) (cb base : Nat) (rows : List (List Int)) : Prop := ∃ s us, w.heap[cb]? = some (.cells #[s] 25 (0, 0)) ∧ OwnSS w base s rows us ∧ base ≤ cb

theorem AccS.keep {w w' : World} {cb base : Nat} {rows : List (List Int)} (h : AccS w cb base rows) (hk : ∀ b, base ≤ b → b < w.heap.size → w'.heap[b]? = w.heap[b]?) : AccS w' cb base rows := by
  obtain ⟨s, us, h1, h2, h3⟩ := h
  exact ⟨s, us, (hk cb h3 (lt_of_heap h1)).trans h1, h2.keep fun g hg => hk g (h2.lt g hg).1 (h2.lt g hg).2, h3⟩

theorem accS_ne {w : World} {base n : Nat} {s : Value} {us : List Value} {cb : Nat} {cs : Array Value} (h : w.ownsRow base 22 1 s n us) (hc : w.heap[cb]? = some (.cells cs 25 (0, 0))) : s.ownBlock ≠ some cb := by
  intro e
  rcases h.2 with ⟨rfl, _⟩ | ⟨g', cap, cur, rfl, _, hh, _⟩
  · simp [Value.ownBlock] at e
  · simp [Value.ownBlock] at e
    subst e
    rw [hc] at hh
    simp at hh
theorem own_row_ne {w : World} {base : Nat} {s : Value} {xs : List Int} {cb : Nat} {cs : Array Value} (h : OwnI w base s xs) (hc : w.heap[cb]? = some (.cells cs 25 (0, 0))) : s.ownBlock ≠ some cb := by
  intro e
  rcases h.2 with ⟨rfl, _⟩ | ⟨g', cap, cur, rfl, _, hh, _⟩
  · simp [Value.ownBlock] at e
  · simp [Value.ownBlock] at e
    subst e
    rw [hc] at hh
    simp at hh

set_option maxHeartbeats 1000000 in
theorem dealRing1_any (l : Nat) (es : List Nat) (ys : List Int) (cb base : Nat) (rows : List (List Int)) (w : World) (h : AccS w cb base rows) (hl : LC w l es (ys.map I)) (hy : ys.length ≤ 17592186043904) (hr : rows.length < 1000) :
    Calls Try.prog 44 #[IL l, P cb] w fun e w' => e = .returned (.tuple #[]) ∧ AccS w' cb base (rows ++ [ys]) ∧ Below base w w' := by
  obtain ⟨s, us, h1, h2, h3⟩ := h
  obtain ⟨i0, hi, hz0, hz1, hz2⟩ := info_parts rowInfo
  have HL := Lib.hid hl
  have c0 : w.cell? ⟨cb, 0, none⟩ = some s := by rw [cell_of_heap h1]; rfl
  have hta := run_assert_list l
  obtain ⟨A, c, hs, _, _, _⟩ := own_open h2.own
  subst hs
  have H1 := Lib.hid h1
  have H2 := Lib.hid h2
  have hlt := lt_of_heap h1
  have hbl : base ≤ w.heap.size := by omega
  clear h1 h2 hl
  go_enter Try.func44, Try.ntmps44
  go_region_law (first
    | (go_simp
       go_at_call 37
       refine (values_lc ys (HL.out.bl (bl_drew (bl_refl w))) hy).mono ?_
       rintro e w2 ⟨v2, rfl, o2, b2⟩
       obtain ⟨n2, A2, cc2, hv2⟩ := ints_val (OwnI.ints o2)
       subst hv2
       have b2' : Bl w w2 := bl_trans (bl_drew (bl_refl w)) b2
       have hh2 : w2.heap[cb]? = some (.cells #[.slice A rows.length c] 25 (0, 0)) := (b2'.block cb hlt).trans H1.out
       have c02 : w2.cell? ⟨cb, 0, none⟩ = some (.slice A rows.length c) := by rw [cell_of_heap hh2]; rfl
       have hlt2 : cb < w2.heap.size := lt_of_heap hh2
       have HO2 := Lib.hid o2
       have HS2 := Lib.hid (H2.out.bl b2')
       clear o2)
    | (refine step_cat _ rfl (.tmp 3) (.tmp 7) _ rfl base 22 i0 _ 1 24 Try.underlying25 hi hz0 hz1 hz2 rfl (by decide) (.slice A rows.length c) rows.length us rfl (HS2.out.own.alloc _) _ 1 [.slice A2 n2 cc2] rfl (sl_one (World.cell?_alloc_new w2 _ _ 0)) (by intro y hy; simp at hy; subst hy; rfl) (by unfold maxLen; omega) (by omega) (by simp; omega) ?_
       intro v3 w3 o3 c3 l3
       have hne : (Value.slice A rows.length c).ownBlock ≠ some cb := accS_ne HS2.out.own hh2
       have hh3 : w3.heap[cb]? = some (.cells #[.slice A rows.length c] 25 (0, 0)) := (c3.block cb (by simp; omega) hne).trans ((Below.heap_alloc w2 _ cb hlt2).trans hh2)
       have e0 : w3.cell? ⟨cb, 0, none⟩ = some (.slice A rows.length c) := by rw [cell_of_heap hh3]; rfl
       have f0 : w3.frozen? ⟨cb, 0, none⟩ = false := frozen_of_heap hh3
       obtain ⟨A3, cc3, hv3, _, _, _⟩ := own_open o3
       subst hv3
       have hc3 : Chg (fun k => (Value.slice A rows.length c).ownBlock = some k) w2 w3 := (chg_of_bl (bl_alloc (bl_refl w2) _) _).trans c3
       have hsn := OwnSS.snoc H2.out hbl b2' (own_base HO2.out (by simp)) o3 hc3
       have hne3 : ∀ g, SSb (.slice A3 (rows.length + 1) cc3) (us ++ [.slice A2 n2 cc2]) g → g ≠ cb := by
         rintro g (hg | ⟨u, hu, hg⟩) rfl
         · exact accS_ne o3 hh3 hg
         · obtain ⟨k, hk⟩ := List.mem_iff_getElem?.1 hu
           have hkl := (List.getElem?_eq_some_iff.1 hk).1
           have hul : (us ++ [Value.slice A2 n2 cc2]).length = (rows ++ [ys]).length := by have := hsn.own.1; rw [Nat.mul_one] at this; exact this
           obtain ⟨u', e', hu'⟩ := hsn.row k (by rw [← hul]; exact hkl)
           rw [hk] at e'
           obtain rfl := Option.some.inj e'
           exact own_row_ne hu' hh3 hg
       have HST : Hid (AccS (w3.setCell ⟨cb, 0, none⟩ (.slice A3 (rows.length + 1) cc3)) cb base (rows ++ [ys])) := by
         refine ⟨_, _, (heap_setCell_same hh3 _).trans rfl, hsn.keep fun g hg => Below.heap_setCell _ _ _ _ (hne3 g hg), h3⟩
       have HBW : Hid (Below base w (w3.setCell ⟨cb, 0, none⟩ (.slice A3 (rows.length + 1) cc3))) := by
         refine Below.setCell ?_ h3 _
         refine ⟨hc3.os.trans b2'.os, hc3.tape.trans b2'.tape, hc3.output.trans b2'.output, Nat.le_trans b2'.size hc3.size, fun g hg => (hc3.block g (by have := b2'.size; omega) (fun e => ?_)).trans (b2'.block g (by omega))⟩
         have := (own_lt HS2.out.own g e).1
         omega
       clear o3 c3 l3 hne hh3 hsn hne3))
  all_goals
    go_wp2
    go_end0
    exact ⟨rfl, HST.out, HBW.out⟩

set_option maxHeartbeats 2000000 in
theorem do_deal {w : World} {D : Nat → Prop} {ad nx pv : Nat → Nat} {val : Nat → Value} (hr : Ring w D ad nx pv val) {r : Nat} (hd : D r) (A : List Nat) (hp : Path nx r (r :: A) r) (hnd : r ∉ A) (hA : ∀ x ∈ A, D x) (LL : Nat → LT) (hv : ∀ x, D x → val x = IL (LL x).1)
    (cb base : Nat) (rows : List (List Int)) (ha : AccS w cb base rows) (hll : ∀ x, D x → LC w (LL x).1 (LL x).2.1 ((LL x).2.2.map I)) (hlt : ∀ x, D x → ∀ b, (LL x).blk b → b < base) (hrb : ∀ x, D x → ad x < base) (hlen : ∀ x, D x → (LL x).2.2.length ≤ 17592186043904) (hin : ∀ x, D x → Inited w (ad x)) (hl : rows.length + A.length < 999) :
    Calls Try.prog 43 #[P (ad r), .func (.func 44) #[] #[P cb]] w fun e w' => e = .returned (.tuple #[]) ∧ AccS w' cb base (rows ++ (r :: A).map fun x => (LL x).2.2) ∧ Chg (fun k => At D ad k ∨ base ≤ k) w w' := by
  have HR := Lib.hid hr
  have HP := Lib.hid hp
  have HA := Lib.hid hA
  have HV := Lib.hid hv
  have HACC := Lib.hid ha
  have HLL := Lib.hid hll
  have HLT := Lib.hid hlt
  have HRB := Lib.hid hrb
  have HLEN := Lib.hid hlen
  have HINI := Lib.hid hin
  have c2 : w.cell? ⟨ad r, 2, none⟩ = some (IL (LL r).1) := by
    obtain ⟨a, c, e, _⟩ := hr.node r hd
    rw [cell_of_heap e, hv r hd]; rfl
  -- what stays where only blocks from base on were written
  have HKR : Hid (∀ a b : World, Below base a b → Ring a D ad nx pv val → Ring b D ad nx pv val) := fun a b hb h => h.keep fun i hi => hb.block _ (HRB.out i hi)
  have HKL : Hid (∀ a b : World, Below base a b → (∀ x, D x → LC a (LL x).1 (LL x).2.1 ((LL x).2.2.map I)) → ∀ x, D x → LC b (LL x).1 (LL x).2.1 ((LL x).2.2.map I)) := fun a b hb h x hx => by
    refine (h x hx).chg (chg_below hb (fun _ => False)) (fun y hy hs => ?_)
    rcases hs with hs | hs
    · exact hs
    · have := HLT.out x hx y hy; omega
  have HKI : Hid (∀ a b : World, Below base a b → (∀ x, D x → Inited a (ad x)) → ∀ x, D x → Inited b (ad x)) := fun a b hb h x hx => by
    obtain ⟨n, p, v, e⟩ := h x hx
    exact ⟨n, p, v, (hb.block _ (HRB.out x hx)).trans e⟩
  clear hr hp hA hv ha hll hlt hrb hlen hin
  go_enter Try.func43, Try.ntmps43
  go_wp2_with fail
  refine (dealRing1_any _ _ _ cb base rows _ HACC.out (HLL.out r hd) (HLEN.out r hd) (by omega)).mono ?_
  rintro e w1 ⟨rfl, a1, b1⟩
  have A1 := Lib.hid a1
  have B1 := Lib.hid b1
  have R1 := Lib.hid (HKR.out _ _ b1 HR.out)
  have L1 := Lib.hid (HKL.out _ _ b1 HLL.out)
  have I1 := Lib.hid (HKI.out _ _ b1 HINI.out)
  clear a1 b1
  go_wp2_with fail
  refine (next_ring R1.out hd).mono ?_
  rintro e w2 ⟨rfl, k2, i2⟩
  have R2 := Lib.hid k2.ring
  have I2 : Hid (∀ x, D x → Inited w2 (ad x)) := fun x hx => k2.inited _ (I1.out x hx)
  have A2 := Lib.hid (A1.out.keep fun b hb hlt' => k2.chg.block b hlt' (fun ⟨i, hi, e⟩ => by have := HRB.out i hi; omega))
  have L2 : Hid (∀ x, D x → LC w2 (LL x).1 (LL x).2.1 ((LL x).2.2.map I)) := fun x hx => (L1.out x hx).chg k2.chg (LC.ne_ring (L1.out x hx) R1.out)
  have C2 := Lib.hid ((chg_below B1.out (At D ad)).trans (k2.chg.mono fun k h _ => .inl h))
  clear k2 i2
  go_wp2
  go_loopg [4] A.length (fun g p wr => ∃ j q, j + g = A.length ∧ p = P (ad q) ∧ Path nx q (A.drop j) r ∧ AccS wr cb base (rows ++ (r :: A.take j).map fun x => (LL x).2.2) ∧ Ring wr D ad nx pv val ∧ (∀ x, D x → LC wr (LL x).1 (LL x).2.1 ((LL x).2.2.map I)) ∧ (∀ x, D x → Inited wr (ad x)) ∧ Chg (fun k => At D ad k ∨ base ≤ k) w wr)
  case atStart => exact ⟨0, nx r, by omega, rfl, HP.out.2, A2.out, R2.out, L2.out, I2.out, C2.out⟩
  case round =>
    obtain ⟨j, q, hj, rfl, hpq, hacc, hring, hll, hin, hchg⟩ := hrel
    have HJ := Lib.hid hj
    have HAC := Lib.hid hacc
    have HRR := Lib.hid hring
    have HLR := Lib.hid hll
    have HIN := Lib.hid hin
    have HCH := Lib.hid hchg
    clear hacc hring hll hin hchg
    by_cases hlt : j < A.length
    · rw [List.drop_eq_getElem_cons hlt] at hpq
      obtain ⟨rfl, hp2⟩ := hpq
      have HP2 := Lib.hid hp2
      have hm : A[j] ∈ A := List.getElem_mem hlt
      have hDm := HA.out _ hm
      have hne := HRR.out.neq hDm hd (fun e => hnd (e ▸ hm))
      have c3 : wr.cell? ⟨ad A[j], 2, none⟩ = some (IL (LL A[j]).1) := by
        obtain ⟨a, c, e, _⟩ := HRR.out.node _ hDm
        rw [cell_of_heap e, HV.out _ hDm]; rfl
      have HNO := Lib.hid (HRR.out.inode hDm (HIN.out _ hDm))
      have HS := Lib.hid (List.take_succ_eq_append_getElem hlt)
      have hlen : (rows ++ (r :: A.take j).map fun x => (LL x).2.2).length < 1000 := by
        simp only [List.length_append, List.length_map, List.length_cons, List.length_take]
        omega
      clear hp2 hm hj
      generalize A[j] = q at *
      go_wp2_with fail
      refine (dealRing1_any _ _ _ cb base _ _ HAC.out (HLR.out q hDm) (HLEN.out q hDm) hlen).mono ?_
      rintro e w3 ⟨rfl, a3, b3⟩
      have A3 := Lib.hid a3
      have B3 := Lib.hid b3
      have c0 : w3.cell? ⟨ad q, 0, none⟩ = some (P (ad (nx q))) := by
        have h : w3.heap[ad q]? = _ := (b3.block _ (HRB.out q hDm)).trans HNO.out
        rw [cell_of_heap h]; rfl
      clear a3 b3 c3 hne
      go_wp2
      go_roundg (A.length - (j + 1))
      case rel =>
        refine ⟨j + 1, _, by omega, rfl, HP2.out, ?_, HKR.out _ _ B3.out HRR.out, HKL.out _ _ B3.out HLR.out, HKI.out _ _ B3.out HIN.out, HCH.out.trans (chg_below B3.out _)⟩
        have h := A3.out
        rw [HS.out, ← List.cons_append, List.map_append, ← List.append_assoc]
        exact h
      case measure => have := HJ.out; omega
    · have hje : j = A.length := by omega
      subst hje
      rw [List.drop_length] at hpq
      have e : q = r := hpq
      subst e
      have hne := run_neq_same (ad q) wr
      rw [List.take_length] at HAC
      clear hpq hj
      go_wp2
      go_end0
      exact ⟨rfl, HAC.out, HCH.out⟩

end Go.Proofs.Ytgjackalcajmjaa
