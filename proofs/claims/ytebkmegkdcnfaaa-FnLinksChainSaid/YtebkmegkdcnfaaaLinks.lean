/- The walks of Links, of the program and of the reference. -/
import Derived.Test.YtebkmegkdcnfaaaRing
import Derived.Test.YtebkmegkdcnfaaaAt
import Derived.Test.YtebkmegkdcnfaaaPair
import Derived.Test.YtebkmegkdcnfaaaOrder
namespace Go.Proofs.Ytebkmegkdcnfaaa
open Go.RowKit

theorem ringInfo : (Try.prog.info? 71).map (fun i => (i.zero, i.size, i.bytes)) = some (some (.pointer none), 1, 8) := by kernel_rfl

theorem Ring.more {w : World} {n : Nat} {ad : Nat → Nat} {val : Nat → Value} (h : Ring w (· < n) ad id id val) :
    Ring (w.alloc (.cells #[.pointer none, .pointer none, val n] 74)) (· < n + 1) (upd ad n w.heap.size) id id val := by
  refine ⟨fun i hi => ?_, fun i j hi hj e => ?_, fun i hi => hi, fun i hi => hi, fun _ _ => rfl, fun _ _ => rfl⟩
  · by_cases hin : i = n
    · subst hin
      refine ⟨_, _, ?_, .inr ⟨rfl, rfl, rfl, rfl⟩⟩
      rw [upd_same]; exact heap_alloc_new w _
    · obtain ⟨a, c, e, r⟩ := h.node i (by omega)
      refine ⟨a, c, ?_, ?_⟩
      · rw [upd_other _ _ hin, Below.heap_alloc _ _ _ (h.lt (by omega : i < n))]; exact e
      · simp only [id] at r ⊢; rw [upd_other _ _ hin]; exact r
  · unfold upd at e
    by_cases h1 : i = n <;> by_cases h2 : j = n
    · omega
    · rw [if_pos h1, if_neg h2] at e
      have := h.lt (by omega : j < n); omega
    · rw [if_neg h1, if_pos h2] at e
      have := h.lt (by omega : i < n); omega
    · rw [if_neg h1, if_neg h2] at e
      exact h.inj i j (by omega) (by omega) e

/-- The pointers to the elements. -/
def ptrs (ad : Nat → Nat) (n : Nat) : List Value := (List.range n).map fun i => P (ad i)
theorem ptrs_len (ad : Nat → Nat) (n : Nat) : (ptrs ad n).length = n := by simp [ptrs]
theorem ptrs_succ (ad : Nat → Nat) (n b : Nat) : ptrs (upd ad n b) (n + 1) = ptrs ad n ++ [P b] := by
  unfold ptrs
  rw [List.range_succ, List.map_append]
  congr 1
  · apply List.map_congr_left
    intro i hi
    rw [upd_other _ _ (by have := List.mem_range.1 hi; omega)]
  · simp [upd_same]

/-- What singles gives: n elements, each alone, and a slice of pointers to them. -/
def Singles (w : World) (n : Nat) (e : Ending) (w' : World) : Prop :=
  ∃ v ad, e = .returned v ∧ w'.ownsRow w.heap.size 71 1 v n (ptrs ad n) ∧ Ring w' (· < n) ad id id (fun k => I k) ∧ (∀ i, i < n → w.heap.size ≤ ad i) ∧ Bl w w'

set_option maxRecDepth 100000 in
set_option maxHeartbeats 400000 in
theorem singles_any (n : Nat) (w : World) (hn : n ≤ 1048576) : Calls Try.prog 60 #[.int .i64 n] w (Singles w n) := by
  obtain ⟨i0, hi, hz0, hz1, hz2⟩ := info_parts ringInfo
  go_enter Try.func60, Try.ntmps60
  go_wp2
  go_loopw [3, 4] (fun v i wr => ∃ j : Nat, j ≤ n ∧ i = .int .i64 j ∧ ∃ ad, wr.ownsRow w.heap.size 71 1 v j (ptrs ad j) ∧ Ring wr (· < j) ad id id (fun k => I k) ∧ (∀ i, i < j → w.heap.size ≤ ad i) ∧ Bl w wr) (fun _ i _ => n - (intOf i).toNat)
  case atStart => exact ⟨0, Nat.zero_le _, rfl, id, own_empty _ _ _, ⟨fun i hi => absurd hi (by omega), fun i _ hi => absurd hi (by omega), fun i hi => absurd hi (by omega), fun i hi => absurd hi (by omega), fun i hi => absurd hi (by omega), fun i hi => absurd hi (by omega)⟩, fun i hi => absurd hi (by omega), bl_alloc (bl_refl _) _⟩
  case round =>
    obtain ⟨j, hj, rfl, ad, hown, hring, had, hbl⟩ := hrel
    have HO := Lib.hid hown
    have HB := Lib.hid hbl
    have HR := Lib.hid hring
    have HA := Lib.hid had
    clear hown hbl hring had
    by_cases hlt : j < n
    · go_wp2_with (at_builtin; go_must (refine wpList_push (wr.alloc (.cells #[.pointer none, .pointer none, I j] 74)) rfl (.tmp 11) (.tmp 16) _ rfl w.heap.size 71 i0 _ 8 Try.underlying70 hi hz0 hz1 hz2 rfl u3 j (ptrs ad j) rfl (HO.out.alloc _) (P wr.heap.size) rfl rfl (World.size_alloc _ _).symm (by omega) (by omega) (by have := HB.out.size; simp; omega) ?_); intro v1 w1 hown1 hchg1 hloc1)
      have h1 := HR.out.more
      have hne := h1.ne_own (HO.out.alloc (.cells #[.pointer none, .pointer none, I j] 74)) (by decide)
      have HR1 := Lib.hid (h1.chg hchg1 (fun i hi => hne i hi))
      have HO1 := Lib.hid hown1
      have HB1 := Lib.hid (bl_own (bl_alloc HB.out _) (HO.out.alloc _) hchg1)
      clear hown1 hchg1 hloc1 h1 hne
      go_roundw
      case rel =>
        refine ⟨j + 1, by omega, by go_num, _, by rw [ptrs_succ]; exact HO1.out, HR1.out, fun i hi => ?_, HB1.out⟩
        by_cases hij : i = j
        · subst hij; rw [upd_same]; exact HB.out.size
        · rw [upd_other _ _ hij]; exact HA.out i (by omega)
      case measure => simp [intOf]; omega
    · obtain rfl : j = n := by omega
      go_wp2
      go_ret
      exact ⟨_, ad, rfl, HO.out, HR.out, HA.out, HB.out⟩

def linkStep (n : Nat) (s : (Nat → Nat) × (Nat → Nat)) (p : Int × Int) : (Nat → Nat) × (Nat → Nat) :=
  (lnx s.1 s.2 (ix p.1 n) (ix p.2 n), lpv s.1 s.2 (ix p.1 n) (ix p.2 n))
def linkAll (n : Nat) (s : (Nat → Nat) × (Nat → Nat)) (ps : List (Int × Int)) : (Nat → Nat) × (Nat → Nat) := ps.foldl (linkStep n) s

theorem linkAll_take (n : Nat) (s : (Nat → Nat) × (Nat → Nat)) (ps : List (Int × Int)) (k : Nat) (hk : k < ps.length) : linkAll n s (ps.take (k + 1)) = linkStep n (linkAll n s (ps.take k)) ps[k] := by
  unfold linkAll
  rw [List.take_succ_eq_append_getElem hk, List.foldl_append]
  rfl

theorem Ring.none_ {w : World} {ad nx pv : Nat → Nat} {val : Nat → Value} : Ring w (· < 0) ad nx pv val :=
  ⟨fun i hi => absurd hi (by omega), fun i _ hi => absurd hi (by omega), fun i hi => absurd hi (by omega), fun i hi => absurd hi (by omega), fun i hi => absurd hi (by omega), fun i hi => absurd hi (by omega)⟩

def Linked (w : World) (n : Nat) (ad nx pv : Nat → Nat) (val : Nat → Value) (e : Ending) (w' : World) : Prop :=
  e = .returned (.tuple #[]) ∧ Ring w' (· < n) ad nx pv val ∧ Chg (At (· < n) ad) w w'

set_option maxRecDepth 100000 in
set_option maxHeartbeats 400000 in
theorem linked_none (v u : Value) (ad nx pv : Nat → Nat) (val : Nat → Value) (ps : List (Int × Int)) (w : World) (hv : Sl w 1 v 0 []) (hu : Prs w u ps) :
    Calls Try.prog 61 #[v, u] w (Linked w 0 ad nx pv val) := by
  obtain ⟨_, A, c, rfl, _, hm, _⟩ := hv
  obtain ⟨B, d, rfl, hd, hm2, hu⟩ := hu.open
  unfold maxLen at hm hm2
  by_cases h0 : 0 < ps.length
  · obtain ⟨b, off, rfl, hc1, hc2⟩ := hu 0 h0
    clear hu
    simp only [Nat.zero_mul, Nat.add_zero] at hc1 hc2
    go_enter Try.func61, Try.ntmps61
    go_wp2
    refine wp_loop_rounds 1 ?_
    rw [rounds_succ]
    go_wp2
    go_end0
    exact ⟨rfl, Ring.none_, chg_of_bl (bl_alloc (bl_refl _) _) _⟩
  · have hl : ps.length = 0 := by omega
    rw [hl]
    clear hu hl
    go_enter Try.func61, Try.ntmps61
    go_wp2
    refine wp_loop_rounds 1 ?_
    rw [rounds_succ]
    go_wp2
    go_end0
    exact ⟨rfl, Ring.none_, chg_of_bl (bl_refl _) _⟩

theorem ptrs_get (ad : Nat → Nat) {n k : Nat} (h : k < n) : (ptrs ad n)[k]? = some (P (ad k)) := by simp [ptrs, h]

/-- The elements' slice: not changed by what is done to the elements. -/
theorem elem_cell {w : World} {base n c : Nat} {A : Option Addr} {ad : Nat → Nat} (h : w.ownsRow base 71 1 (.slice A n c) n (ptrs ad n)) {k : Nat} (hk : k < n) :
    ∃ g, A = some ⟨g, 0, none⟩ ∧ w.cell? ⟨g, k, none⟩ = some (P (ad k)) := by
  obtain ⟨A', c', e, _, _, hA⟩ := own_open h
  simp at e
  obtain ⟨rfl, rfl⟩ := e
  obtain ⟨g, rfl, _, _⟩ := hA (by omega)
  refine ⟨g, rfl, ?_⟩
  rw [own_cell h (by omega), List.getD_eq_getElem?_getD, ptrs_get _ hk]
  rfl

set_option maxRecDepth 100000 in
set_option maxHeartbeats 1000000 in
theorem linked_some (v u : Value) (base n : Nat) (ad nx pv : Nat → Nat) (val : Nat → Value) (ps : List (Int × Int)) (w0 w : World) (hn : 0 < n) (hn2 : n ≤ 1048576)
    (hv : w.ownsRow base 71 1 v n (ptrs ad n)) (hu : Prs w0 u ps) (hbl : Bl w0 w) (had : ∀ i, i < n → w0.heap.size ≤ ad i) (hr : Ring w (· < n) ad nx pv val) :
    Calls Try.prog 61 #[v, u] w (Linked w n ad (linkAll n (nx, pv) ps).1 (linkAll n (nx, pv) ps).2 val) := by
  obtain ⟨A, c, rfl, _, hm, _⟩ := own_open hv
  obtain ⟨B, d, rfl, hd, hm2, hu⟩ := hu.open
  unfold maxLen at hm hm2
  have HV := Lib.hid hv
  have HU := Lib.hid hu
  have HB := Lib.hid hbl
  have HA := Lib.hid had
  have HR := Lib.hid hr
  clear hv hu hbl had hr
  go_enter Try.func61, Try.ntmps61
  go_wp2
  go_loopw [6, 11] (fun _ i wr => ∃ k : Nat, k ≤ ps.length ∧ i = .int .i64 k ∧ Ring wr (· < n) ad (linkAll n (nx, pv) (ps.take k)).1 (linkAll n (nx, pv) (ps.take k)).2 val ∧ Chg (At (· < n) ad) w wr) (fun _ i _ => ps.length - (intOf i).toNat)
  case atStart => exact ⟨0, Nat.zero_le _, rfl, HR.out, Chg.refl _ _⟩
  case round =>
    obtain ⟨k, hk, rfl, hring, hchg⟩ := hrel
    have HRK := Lib.hid hring
    have HC := Lib.hid hchg
    clear hring hchg
    by_cases hlt : k < ps.length
    · obtain ⟨b, off, rfl, hc1, hc2⟩ := HU.out k hlt
      have hblr : Bl w0 wr := bl_chg HB.out HC.out (fun i ⟨j, hj, e⟩ => by subst e; exact HA.out j hj)
      have r1 := (hblr.cell (World.block_lt_of_cell? _ _ hc1)).trans hc1
      have r2 := (hblr.cell (World.block_lt_of_cell? _ _ hc2)).trans hc2
      have HVR := Lib.hid (own_chg HV.out HC.out fun g hg ⟨j, hj, e⟩ => by subst e; exact HR.out.ne_own HV.out (by decide) j hj hg)
      obtain ⟨g, rfl, e1⟩ := elem_cell HVR.out (ix_lt ps[k].1 hn)
      obtain ⟨g', hg', e2⟩ := elem_cell HVR.out (ix_lt ps[k].2 hn)
      simp at hg'
      subst hg'
      have l1 := ix_lt ps[k].1 hn
      have l2 := ix_lt ps[k].2 hn
      have L := Lib.hid (linkAll_take n (nx, pv) ps k hlt)
      have hgs := World.block_lt_of_cell? _ _ e1
      have hn0 : ((n : Int) == 0) = false := by rw [beq_eq_false_iff_ne]; omega
      clear hc1 hc2 hblr
      go_wp2
      refine region_tail 14 (by kernel_rfl) (by kernel_rfl) ?_
      simp only [List.take_succ_cons, List.take_zero, List.drop_succ_cons, List.drop_zero]
      repeat still_step
      still_call (at_ix ps[k].1 n _ hn (by omega))
      repeat still_step
      still_call (at_ix ps[k].2 n _ hn (by omega))
      repeat still_step
      refine wpStill_nil ?_
      go_wp2_with fail
      refine (link_ring (HRK.out.bl (bl_drew (bl_alloc (bl_refl wr) _))) l1 l2).mono ?_
      rintro e w1 ⟨rfl, k1, _, _⟩
      have HK1 := Lib.hid k1
      clear k1
      go_wp2
      go_roundw
      case rel =>
        refine ⟨k + 1, by omega, by go_num, ?_, (HC.out.trans (chg_of_bl (bl_drew (bl_alloc (bl_refl wr) _)) _)).trans HK1.out.chg⟩
        rw [L.out]
        exact HK1.out.ring
      case measure => simp [intOf]; omega
    · obtain rfl : k = ps.length := by omega
      go_wp2
      go_end0
      refine ⟨rfl, ?_, HC.out⟩
      have := HRK.out
      rwa [List.take_length] at this

theorem Ring.cell2 {w : World} {D : Nat → Prop} {ad nx pv : Nat → Nat} {val : Nat → Value} (h : Ring w D ad nx pv val) {i : Nat} (hi : D i) : w.cell? ⟨ad i, 2, none⟩ = some (val i) := by
  obtain ⟨a, c, e, _⟩ := h.node i hi
  rw [cell_of_heap e]; rfl

/-- linked, whatever the number of elements. -/
theorem linked_any (v u : Value) (base n : Nat) (ad nx pv : Nat → Nat) (val : Nat → Value) (ps : List (Int × Int)) (w0 w : World) (hn2 : n ≤ 1048576)
    (hv : w.ownsRow base 71 1 v n (ptrs ad n)) (hu : Prs w0 u ps) (hbl : Bl w0 w) (had : ∀ i, i < n → w0.heap.size ≤ ad i) (hr : Ring w (· < n) ad nx pv val) :
    Calls Try.prog 61 #[v, u] w (Linked w n ad (linkAll n (nx, pv) ps).1 (linkAll n (nx, pv) ps).2 val) := by
  rcases Nat.eq_zero_or_pos n with h | h
  · subst h
    exact linked_none v u ad _ _ val ps w (Sl.of_own hv) (hu.bl hbl)
  · exact linked_some v u base n ad nx pv val ps w0 w h hn2 hv hu hbl had hr

/-- For each element the number of the next one. -/
def linksOf (n : Nat) (ps : List (Int × Int)) : List Int := (List.range n).map fun i => ((linkAll n (id, id) ps).1 i : Int)
theorem linksOf_len (n : Nat) (ps : List (Int × Int)) : (linksOf n ps).length = n := by simp [linksOf]
theorem linksOf_take (n : Nat) (ps : List (Int × Int)) (k : Nat) (hk : k < n) : (linksOf n ps).take (k + 1) = (linksOf n ps).take k ++ [((linkAll n (id, id) ps).1 k : Int)] := by
  rw [List.take_succ_eq_append_getElem (by rw [linksOf_len]; exact hk)]
  simp [linksOf]

set_option maxRecDepth 100000 in
set_option maxHeartbeats 1000000 in
theorem Links_impl (a : Int) (u : Value) (ps : List (Int × Int)) (w : World) (hu : Prs w u ps) :
    Calls Try.prog 28 #[.int .i64 a, u] w (NewInts w (linksOf (ix a 200) ps)) := by
  obtain ⟨i0, hi, hz0, hz1, hz2⟩ := info_parts intInfo
  have HU := Lib.hid hu
  clear hu
  have hN := ix_lt a (n := 200) (by omega)
  generalize hNN : ix a 200 = N at *
  have HN := Lib.hid hNN
  clear hNN
  go_enter Try.func28, Try.ntmps28
  go_wp2_with fail
  refine (at_ix a 200 _ (by omega) (by omega)).mono ?_
  rintro e w' ⟨rfl, rfl⟩
  rw [HN.out]
  go_wp2_with fail
  refine (singles_any N _ (by omega)).mono ?_
  rintro e w1 ⟨v, ad, rfl, hown, hring, had, hbl⟩
  have HO := Lib.hid hown
  have HB := Lib.hid hbl
  have HR := Lib.hid hring
  have HA := Lib.hid had
  clear hown hbl hring had
  go_wp2_with fail
  refine (linked_any v u _ N ad id id _ ps w' w1 (by omega) HO.out HU.out HB.out HA.out HR.out).mono ?_
  rintro e w2 ⟨rfl, hring, hchg⟩
  have HO2 := Lib.hid (own_chg HO.out hchg fun g hg ⟨j, hj, e⟩ => by subst e; exact HR.out.ne_own HO.out (by decide) j hj hg)
  have HB2 := Lib.hid (bl_chg HB.out hchg fun i ⟨j, hj, e⟩ => by subst e; exact HA.out j hj)
  have HR2 := Lib.hid hring
  clear hring hchg
  obtain ⟨A, c, hv, _, hm, _⟩ := own_open HO2.out
  unfold maxLen at hm
  subst hv
  have HX := Lib.hid (fun k hk => linksOf_take N ps k hk)
  have HXL := Lib.hid (linksOf_len N ps)
  generalize linksOf N ps = xs at *
  generalize linkAll N (id, id) ps = s at *
  go_wp2
  go_loopw [6, 8, 18] (fun v _ i wr => ∃ k : Nat, k ≤ N ∧ i = .int .i64 k ∧ wr.ownsRow w'.heap.size 3 1 v k ((xs.take k).map (Value.int .i64)) ∧ Ring wr (· < N) ad s.1 s.2 (fun k => I k) ∧ wr.ownsRow w'.heap.size 71 1 (.slice A N c) N (ptrs ad N) ∧ Bl w' wr) (fun _ _ i _ => N - (intOf i).toNat)
  case atStart =>
    have hb := bl_alloc (bl_refl w2) (.cells #[] 3)
    exact ⟨0, Nat.zero_le _, rfl, own_base (own_empty w2 _ _) HB2.out.size, HR2.out.bl hb, own_bl HO2.out hb, bl_trans HB2.out hb⟩
  case round =>
    obtain ⟨k, hk, rfl, hown, hring, helem, hbl⟩ := hrel
    have HOK := Lib.hid hown
    have HRK := Lib.hid hring
    have HEK := Lib.hid helem
    have HBK := Lib.hid hbl
    clear hown hring helem hbl
    by_cases hlt : k < N
    · obtain ⟨g, rfl, e1⟩ := elem_cell HEK.out hlt
      go_wp2_with fail
      refine (next_ring HRK.out hlt).mono ?_
      rintro e w3 ⟨rfl, k3, i3⟩
      have hta := run_assert_int (s.1 k)
      have c2 := k3.ring.cell2 (HRK.out.nxD k hlt)
      have HO3 := Lib.hid (k3.own HRK.out HOK.out (by decide))
      have HE3 := Lib.hid (k3.own HRK.out HEK.out (by decide))
      have HB3 := Lib.hid (bl_chg HBK.out k3.chg fun i ⟨j, hj, e⟩ => by subst e; exact HA.out j hj)
      have HR3 := Lib.hid k3.ring
      clear k3 i3
      go_wp2_with (at_builtin; go_must (refine wpList_push w3 rfl (.tmp 22) (.tmp 29) _ rfl w'.heap.size 3 i0 _ 8 Try.underlying23 hi hz0 hz1 hz2 rfl u6 k _ rfl HO3.out (.int .i64 (s.1 k)) rfl rfl rfl (by omega) (by omega) HB3.out.size ?_); intro v1 w4 hown4 hchg4 hloc4)
      have HO4 := Lib.hid hown4
      have HE4 := Lib.hid (own_chg HE3.out hchg4 (own_ne HE3.out HO3.out (by decide)))
      have HR4 := Lib.hid (HR3.out.chg hchg4 (HR3.out.ne_own HO3.out (by decide)))
      have HB4 := Lib.hid (bl_own HB3.out HO3.out hchg4)
      clear hown4 hchg4 hloc4
      go_roundw
      case rel =>
        refine ⟨k + 1, by omega, by go_num, ?_, HR4.out, HE4.out, HB4.out⟩
        rw [HX.out k hlt, List.map_append]
        exact HO4.out
      case measure => simp [intOf]; omega
    · obtain rfl : k = N := by omega
      go_wp2
      go_ret
      refine ⟨_, rfl, ?_, HBK.out⟩
      have := HOK.out
      rw [← HXL.out, List.take_length] at this
      exact this

theorem tab_upd (f : Nat → Nat) (n k v : Nat) : (tab f n).set k (v : Int) = tab (upd f k v) n := tab_set f n k v

theorem linkAll_inv (n : Nat) (hn : 0 < n) (ps : List (Int × Int)) : ∀ s : (Nat → Nat) × (Nat → Nat),
    (∀ b, b < n → s.1 b < n) → (∀ b, b < n → s.2 b < n) → (∀ b, b < n → s.2 (s.1 b) = b) → (∀ b, b < n → s.1 (s.2 b) = b) →
    (∀ b, b < n → (linkAll n s ps).1 b < n) ∧ (∀ b, b < n → (linkAll n s ps).2 b < n) ∧ (∀ b, b < n → (linkAll n s ps).2 ((linkAll n s ps).1 b) = b) ∧ (∀ b, b < n → (linkAll n s ps).1 ((linkAll n s ps).2 b) = b) := by
  induction ps with
  | nil => intro s h1 h2 h3 h4; exact ⟨h1, h2, h3, h4⟩
  | cons p ps ih =>
    intro s h1 h2 h3 h4
    obtain ⟨l1, l2, l3, l4⟩ := link_inv (D := (· < n)) h1 h2 h3 h4 (ix_lt p.1 hn) (ix_lt p.2 hn)
    exact ih (linkStep n s p) l1 l2 l3 l4

set_option maxRecDepth 100000 in
set_option maxHeartbeats 1000000 in
theorem Links_spec (a : Int) (u : Value) (ps : List (Int × Int)) (w : World) (hu : Prs w u ps) :
    Calls Try.prog 58 #[.int .i64 a, u] w (NewInts w (linksOf (ix a 200) ps)) := by
  have HU := Lib.hid hu
  have hN := ix_lt a (n := 200) (by omega)
  obtain ⟨B, d, rfl, hd, hm2, hu⟩ := hu.open
  unfold maxLen at hm2
  have HU := Lib.hid hu
  clear hu
  generalize hNN : ix a 200 = N at *
  have HN := Lib.hid hNN
  clear hNN
  go_enter Try.func58, Try.ntmps58
  go_wp2_with fail
  refine (First_any a _).mono ?_
  rintro e w1 ⟨v, rfl, hown, hbl⟩
  have hx : (a % 200).toNat = N := HN.out
  rw [hx, nums_len] at hown
  clear hx
  have HO := Lib.hid hown
  have HB := Lib.hid hbl
  clear hown hbl
  obtain ⟨A, c, hv, _, hm, hA⟩ := own_open HO.out
  unfold maxLen at hm
  subst hv
  have HA := Lib.hid hA
  clear hA
  have hnums : nums N = tab id N := by
    simp only [nums, marks, tab, id]
    apply List.map_congr_left
    intro i _
    omega
  rw [hnums] at HO
  clear hnums
  go_wp2
  go_loopw [7, 8, 9, 10, 11, 18] (fun _ _ _ _ _ i wr => ∃ k : Nat, k ≤ ps.length ∧ i = .int .i64 k ∧ wr.ownsRow w.heap.size 3 1 (.slice A N c) N ((tab (linkAll N (id, id) (ps.take k)).1 N).map (Value.int .i64)) ∧ Bl w wr) (fun _ _ _ _ _ i _ => ps.length - (intOf i).toNat)
  case atStart => exact ⟨0, Nat.zero_le _, rfl, HO.out, HB.out⟩
  case round =>
    obtain ⟨k, hk, rfl, hown, hbl⟩ := hrel
    have HOK := Lib.hid hown
    have HBK := Lib.hid hbl
    clear hown hbl
    by_cases hlt : k < ps.length
    · obtain ⟨b, off, rfl, hc1, hc2⟩ := HU.out k hlt
      have r1 := (HBK.out.cell (World.block_lt_of_cell? _ _ hc1)).trans hc1
      have r2 := (HBK.out.cell (World.block_lt_of_cell? _ _ hc2)).trans hc2
      clear hc1 hc2
      rcases Nat.eq_zero_or_pos N with hN0 | hN0
      · have HZ := Lib.hid hN0
        subst hN0
        go_wp2
        go_ret
        exact ⟨_, rfl, own_bl HOK.out (bl_alloc (bl_refl _) _), bl_trans HBK.out (bl_alloc (bl_refl _) _)⟩
      · have hn0 : ((N : Int) == 0) = false := by rw [beq_eq_false_iff_ne]; omega
        have L := Lib.hid (linkAll_take N (id, id) ps k hlt)
        obtain ⟨d1, d2, d3, d4⟩ := linkAll_inv N hN0 (ps.take k) (id, id) (fun _ h => h) (fun _ h => h) (fun _ _ => rfl) (fun _ _ => rfl)
        generalize linkAll N (id, id) (ps.take k) = s at *
        have D1 := Lib.hid d1
        have D2 := Lib.hid d2
        have D3 := Lib.hid d3
        have D4 := Lib.hid d4
        clear d1 d2 d3 d4
        have l1 := ix_lt ps[k].1 hN0
        have l2 := ix_lt ps[k].2 hN0
        have l3 := D2.out _ l2
        obtain ⟨g, rfl, _, _⟩ := HA.out hN0
        go_wp2
        go_quiet ((go_at_call 15; exact Calls.quiet_of_same (At_ix _ N _ hN0 (by omega))))
        go_wp2_with fail
        obtain ⟨W, hW⟩ : ∃ W, W = (wr.alloc (.cells #[.int .i64 ps[k].1, .int .i64 ps[k].2] 47)).drewN nq := ⟨_, rfl⟩
        rw [← hW]
        have hbW : Bl wr W := by rw [hW]; exact bl_drewN (bl_alloc (bl_refl _) _) _
        clear hW
        have HOW := Lib.hid (own_bl HOK.out hbW)
        have HBW := Lib.hid (bl_trans HBK.out hbW)
        clear hbW
        have hints : Ints W (.slice (some ⟨g, 0, none⟩) N c) (tab s.1 N) := by
          have := Sl.of_own HOW.out
          unfold Ints; rw [tab_len]; exact this
        refine (place_at _ _ _ hints (s.2 (ix ps[k].2 N)) (by rw [tab_len]; exact l3) ?_ ?_).mono ?_
        · rw [tab_get _ l3, D4.out _ l2]
        · intro j hj
          have hjN : j < N := by omega
          rw [tab_get _ hjN]
          intro e
          have e' : s.1 j = ix ps[k].2 N := by omega
          have := D3.out j hjN
          rw [e'] at this
          omega
        rintro e w5 ⟨rfl, rfl⟩
        clear hints
        have hc1 : W.cell? ⟨g, ix ps[k].1 N, none⟩ = some (.int .i64 (s.1 (ix ps[k].1 N))) := by
          rw [own_cell HOW.out (by omega), List.getD_eq_getElem?_getD]
          simp [tab, l1]
        have hc2 : ∃ x, (W.setCell ⟨g, ix ps[k].1 N, none⟩ (.int .i64 (ix ps[k].2 N))).cell? ⟨g, s.2 (ix ps[k].2 N), none⟩ = some x := ⟨_, own_cell (own_set HOW.out _) (by omega)⟩
        obtain ⟨x, hc2⟩ := hc2
        have hf1 := own_frozen HOW.out (ix ps[k].1 N)
        have hf2 := own_frozen HOW.out (s.2 (ix ps[k].2 N))
        have H1 := own_set (k := ix ps[k].1 N) HOW.out (.int .i64 (ix ps[k].2 N))
        have H2 := own_set (k := s.2 (ix ps[k].2 N)) H1 (.int .i64 (s.1 (ix ps[k].1 N)))
        rw [← List.map_set, tab_upd] at H1
        rw [← List.map_set, tab_upd, ← List.map_set, tab_upd] at H2
        have HH1 := Lib.hid H1
        have HH2 := Lib.hid H2
        have hgw := (own_lt HOW.out g rfl).1
        have HB1 := Lib.hid (bl_set (p := ⟨g, ix ps[k].1 N, none⟩) HBW.out hgw (.int .i64 (ix ps[k].2 N)))
        have HB2 := Lib.hid (bl_set (p := ⟨g, s.2 (ix ps[k].2 N), none⟩) HB1.out hgw (.int .i64 (s.1 (ix ps[k].1 N))))
        clear H1 H2
        by_cases hsame : s.2 (ix ps[k].2 N) = ix ps[k].1 N
        · have hs : (((s.2 (ix ps[k].2 N) : Nat) : Int) == ((ix ps[k].1 N : Nat) : Int)) = true := by simp [hsame]
          have HS := Lib.hid hsame
          clear hsame
          go_wp2
          go_roundw
          case rel =>
            refine ⟨k + 1, by omega, by go_num, ?_, HB1.out⟩
            rw [L.out]
            have h := HH1.out
            have e : upd s.1 (ix ps[k].1 N) (ix ps[k].2 N) = (linkStep N s ps[k]).1 := by
              unfold linkStep lnx
              funext i
              simp only [HS.out]
              unfold upd
              by_cases hi : i = ix ps[k].1 N
              · have := D4.out _ l2
                rw [HS.out] at this
                rw [if_pos hi, if_pos hi, this]
              · rw [if_neg hi, if_neg hi]
            rwa [e] at h
          case measure => simp [intOf]; omega
        · have hs : (((s.2 (ix ps[k].2 N) : Nat) : Int) == ((ix ps[k].1 N : Nat) : Int)) = false := by simp; omega
          have HS := Lib.hid hsame
          clear hsame
          go_wp2
          go_roundw
          case rel =>
            refine ⟨k + 1, by omega, by go_num, ?_, HB2.out⟩
            rw [L.out]
            exact HH2.out
          case measure => simp [intOf]; omega
    · obtain rfl : k = ps.length := by omega
      go_wp2
      go_ret
      refine ⟨_, rfl, ?_, HBK.out⟩
      have := HOK.out
      rw [List.take_length] at this
      rw [linksOf_len]
      exact this

end Go.Proofs.Ytebkmegkdcnfaaa
