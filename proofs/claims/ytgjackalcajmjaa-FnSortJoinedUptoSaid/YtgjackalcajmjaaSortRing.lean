/- The walk of SortRing. -/
import Derived.Test.YtgjackalcajmjaaSort
import Derived.Test.YtgjackalcajmjaaRingId
namespace Go.Proofs.Ytgjackalcajmjaa
open Go.RowKit


/-- A ring that begins with root and holds the numbers l behind it; its blocks came since w. -/
def Holds (w wr : World) (root : Nat) (l : List Int) : Prop :=
  ∃ bs nx pv val, Ring wr (· ∈ root :: bs) id nx pv val ∧ Path nx root (root :: bs) root ∧ (root :: bs).Nodup ∧ bs.map val = l.map I ∧ (∀ b ∈ root :: bs, w.heap.size ≤ b) ∧ Bl w wr

theorem map_get {bs : List Nat} {val : Nat → Value} {l : List Int} (h : bs.map val = l.map I) (j : Nat) (hj : j < l.length) : ∃ hb : j < bs.length, val bs[j] = I l[j] := by
  have hl : bs.length = l.length := by have := congrArg List.length h; simpa using this
  refine ⟨by omega, ?_⟩
  have h1 : (bs.map val)[j]'(by simp; omega) = (l.map I)[j]'(by simp; omega) := by simp only [h]
  simpa using h1

/-- One element more: linked in behind position j. -/
theorem holds_insert {w w1 w2 : World} {root : Nat} {bs : List Nat} {nx pv : Nat → Nat} {val : Nat → Value} {l : List Int} (hr : Ring w1 (· ∈ root :: bs) id nx pv val) (hp : Path nx root (root :: bs) root) (hnd : (root :: bs).Nodup) (hv : bs.map val = l.map I)
    (hge : ∀ b ∈ root :: bs, w.heap.size ≤ b) (hb : Bl w w1) (x : Int) (j : Nat) (hj : j < (root :: bs).length)
    (hk : Kept (w1.alloc (.cells #[.pointer none, .pointer none, I x] 55)) (fun i => i ∈ root :: bs ∨ i = w1.heap.size) id
      (lnx (upd nx w1.heap.size w1.heap.size) (upd pv w1.heap.size w1.heap.size) (root :: bs)[j] w1.heap.size) (lpv (upd nx w1.heap.size w1.heap.size) (upd pv w1.heap.size w1.heap.size) (root :: bs)[j] w1.heap.size) (fun i => if i = w1.heap.size then I x else val i) w2) :
    Holds w w2 root (ins l j x) := by
  have hnew : w1.heap.size ∉ root :: bs := fun e => by have : id w1.heap.size < w1.heap.size := hr.lt e; simp only [id] at this; omega
  have hlen : bs.length = l.length := by have := congrArg List.length hv; simpa using this
  have hj' : j ≤ bs.length := by simp at hj; omega
  have hsplit : root :: bs = (root :: bs).take j ++ (root :: bs)[j] :: (root :: bs).drop (j + 1) := by rw [← List.drop_eq_getElem_cons hj, List.take_append_drop]
  refine ⟨bs.take j ++ w1.heap.size :: bs.drop j, _, _, _, hk.ring.conv (fun i => ?_) (fun _ _ => rfl) (fun _ _ => rfl) (fun _ _ => rfl), ?_, ?_, ?_, ?_, ?_⟩
  · have : i ∈ bs ↔ i ∈ bs.take j ∨ i ∈ bs.drop j := by rw [← List.mem_append, List.take_append_drop]
    simp only [List.mem_cons, List.mem_append, this]
    constructor
    · rintro (h | h | h | h)
      · exact .inl (.inl h)
      · exact .inl (.inr (.inl h))
      · exact .inr h
      · exact .inl (.inr (.inr h))
    · rintro ((h | h | h) | h)
      · exact .inl h
      · exact .inr (.inl h)
      · exact .inr (.inr (.inr h))
      · exact .inr (.inr (.inl h))
  · have h1 : Path (upd nx w1.heap.size w1.heap.size) root ((root :: bs).take j ++ (root :: bs)[j] :: (root :: bs).drop (j + 1)) root := by rw [← hsplit]; exact hp.upd_far hnew _
    have hnd' := hnd
    rw [hsplit, List.nodup_append, List.nodup_cons] at hnd'
    obtain ⟨n1, ⟨n2, n3⟩, n4⟩ := hnd'
    have hm := List.getElem_mem hj
    have h2 := h1.insert (x := w1.heap.size) (fun e => n4 _ e _ (by simp) rfl) n2 (fun e => hnew (List.mem_of_mem_take e)) (fun e => hnew (List.mem_of_mem_drop e)) (fun e => hnew (e ▸ hm))
    have e1 : lnx (upd nx w1.heap.size w1.heap.size) (upd pv w1.heap.size w1.heap.size) (root :: bs)[j] w1.heap.size = upd (upd (upd nx w1.heap.size w1.heap.size) (root :: bs)[j] w1.heap.size) w1.heap.size (upd nx w1.heap.size w1.heap.size (root :: bs)[j]) := by
      unfold lnx; rw [upd_same]
    rw [e1]
    have e2 : root :: (bs.take j ++ w1.heap.size :: bs.drop j) = (root :: bs).take j ++ (root :: bs)[j] :: w1.heap.size :: (root :: bs).drop (j + 1) := by
      have e3 : (root :: bs).take j ++ [(root :: bs)[j]] = root :: bs.take j := by rw [← List.take_succ_eq_append_getElem hj]; rfl
      rw [List.drop_succ_cons, ← List.cons_append, ← e3, List.append_assoc]
      rfl
    rw [e2]
    exact h2
  · have hnd2 := List.nodup_cons.1 hnd
    rw [List.nodup_cons, List.nodup_append, List.nodup_cons]
    have hb2 := hnd2.2
    rw [← List.take_append_drop j bs, List.nodup_append] at hb2
    obtain ⟨m1, m2, m3⟩ := hb2
    have hnew2 : w1.heap.size ∉ bs := fun e => hnew (by simp [e])
    refine ⟨?_, m1, ⟨fun e => hnew2 (List.mem_of_mem_drop e), m2⟩, ?_⟩
    · simp only [List.mem_append, List.mem_cons]
      rintro (h | h | h)
      · exact hnd2.1 (List.mem_of_mem_take h)
      · exact hnew (by rw [← h]; simp)
      · exact hnd2.1 (List.mem_of_mem_drop h)
    · intro a ha b hb' e
      subst e
      rcases List.mem_cons.1 hb' with rfl | hb'
      · exact hnew2 (List.mem_of_mem_take ha)
      · exact m3 a ha a hb' rfl
  · unfold ins
    have hmap : ∀ m : List Nat, (∀ y ∈ m, y ∈ bs) → m.map (fun i => if i = w1.heap.size then I x else val i) = m.map val := by
      intro m hm
      apply List.map_congr_left
      intro y hy
      rw [if_neg (fun e => hnew (by rw [← e]; simp [hm y hy]))]
    rw [List.map_append, List.map_cons, List.map_append, List.map_cons, if_pos rfl, hmap _ (fun y hy => List.mem_of_mem_take hy), hmap _ (fun y hy => List.mem_of_mem_drop hy), List.map_take, List.map_drop, hv, ← List.map_take, ← List.map_drop]
  · intro b hb'
    simp only [List.mem_cons, List.mem_append] at hb'
    rcases hb' with h | h | h | h
    · exact hge b (by simp [h])
    · exact hge b (by simp [List.mem_of_mem_take h])
    · rw [h]; exact hb.size
    · exact hge b (by simp [List.mem_of_mem_drop h])
  · refine bl_chg (bl_alloc hb _) hk.chg fun i hi => ?_
    rcases (At_id i).1 hi with h | h
    · exact hge i h
    · rw [h]; exact hb.size

theorem newRing_one {w w1 : World} (h : NewRing w 1 w1) : Holds w w1 w.heap.size [] := by
  have hn := h.ring.node 0 (by omega)
  have e : nxc 1 0 = 0 := rfl
  have e2 : pvc 1 0 = 0 := rfl
  rw [e, e2] at hn
  refine ⟨[], fun _ => w.heap.size, fun _ => w.heap.size, fun _ => .nilIface, ⟨fun i hi => ?_, fun i j _ _ e => e, fun i _ => by simp, fun i _ => by simp, fun i hi => ?_, fun i hi => ?_⟩, ⟨rfl, rfl⟩, by simp, rfl, fun b hb => ?_, h.bl⟩
  · simp at hi; subst hi; exact hn
  · simp at hi; exact hi.symm
  · simp at hi; exact hi.symm
  · simp at hb; omega

set_option maxHeartbeats 2000000 in
theorem SortRing_impl (v : Value) (xs : List Int) (w : World) (hv : Ints w v xs) (hl : xs.length ≤ 17592186043904) : Calls Try.prog 23 #[v] w (NewInts w (sorted xs)) := by
  obtain ⟨A, c, rfl, hc, hm, hv⟩ := hv.open
  obtain ⟨i0, hi, hz0, hz1, hz2⟩ := info_parts intInfo
  have HV := Lib.hid hv
  clear hv
  unfold maxLen at hm
  go_enter Try.func23, Try.ntmps23
  go_wp2_with fail
  refine (new_some 1 (by omega) (by omega) _).mono ?_
  rintro e w1 ⟨rfl, h1⟩
  have H1 := Lib.hid (newRing_one h1)
  clear h1
  generalize hroot : w.heap.size = root at *
  have HR := Lib.hid hroot
  clear hroot
  go_wp2
  go_loopw [5, 6, 12] (fun _ _ i wr => ∃ k : Nat, k ≤ xs.length ∧ i = .int .i64 k ∧ Holds w wr root (sorted (xs.take k))) (fun _ _ i _ => xs.length - (intOf i).toNat)
  case atStart => exact ⟨0, Nat.zero_le _, rfl, H1.out⟩
  case round =>
    obtain ⟨k, hk, rfl, hh⟩ := hrel
    have hsl := sorted_len (xs.take k)
    rw [List.length_take, Nat.min_eq_left hk] at hsl
    by_cases hlt : k < xs.length
    · obtain ⟨b, off, rfl, hc1⟩ := HV.out k hlt
      have HT := Lib.hid (sorted_take xs k hlt)
      generalize xs[k] = x at *
      generalize sorted (xs.take k) = l at *
      have HL := Lib.hid hsl
      clear hsl
      obtain ⟨bs, nx, pv, val, hring, hpath, hnd, hval, hge, hbl⟩ := hh
      have r1 := (hbl.cell (World.block_lt_of_cell? _ _ hc1)).trans hc1
      clear hc1
      have HRI := Lib.hid hring
      have HP := Lib.hid hpath
      have HND := Lib.hid hnd
      have HVL := Lib.hid hval
      have HG := Lib.hid hge
      have HB := Lib.hid hbl
      have hbl' : bs.length = l.length := by have := congrArg List.length hval; simpa using this
      have HBL := Lib.hid hbl'
      clear hring hpath hnd hval hge hbl hbl'
      go_wp2_with fail
      refine (prev_id HRI.out (by simp)).mono ?_
      rintro e w2 ⟨rfl, k2, _⟩
      rw [HRI.out.pv_head HP.out (fun _ h => h) (by simp)]
      have K2 := Lib.hid k2
      clear k2
      go_wp2
      obtain ⟨wo, rfl⟩ : ∃ wo : World, wo = wr := ⟨_, rfl⟩
      go_loopg [6] bs.length (fun j r ws => ∃ hj : j < (root :: bs).length, r = P (root :: bs)[j] ∧ posB l x j = posB l x l.length ∧ Kept wo (· ∈ root :: bs) id nx pv val ws)
      case atStart => exact ⟨by simp, rfl, by rw [HBL.out], K2.out⟩
      case round =>
        obtain ⟨hj, rfl, hpb, hk⟩ := hrel
        have K := Lib.hid hk
        clear hk
        by_cases hj0 : gk = 0
        · subst hj0
          have hp0 : posB l x 0 = 0 := rfl
          rw [hp0] at hpb
          have HPB : Hid ((0 : Nat) = posB l x l.length) := hpb
          clear hpb hp0
          have hne := run_neq_same root wr
          go_wp2_with fail
          refine (link_id (K.out.ring.add (I x)) (.inl (List.getElem_mem hj)) (.inr rfl)).mono ?_
          rintro e w3 ⟨rfl, k3, _, _⟩
          have H3 := Lib.hid (holds_insert K.out.ring HP.out HND.out HVL.out HG.out (bl_chg HB.out K.out.chg fun i hi => HG.out i ((At_id i).1 hi)) x 0 hj k3)
          clear k3
          go_wp2
          go_roundw
          case rel => exact ⟨k + 1, by omega, by go_num, by rw [HT.out]; unfold insS; rw [← HPB.out]; exact H3.out⟩
          case measure => simp [intOf]; omega
        · obtain ⟨i, rfl⟩ : ∃ i, gk = i + 1 := ⟨gk - 1, by omega⟩
          have hil : i < l.length := by have := HBL.out; simp at hj; omega
          obtain ⟨hib, hvi⟩ := map_get HVL.out i hil
          have hmem := List.getElem_mem hj
          have hne := K.out.ring.neq_id hmem (show root ∈ root :: bs by simp) (fun e => by
            have := (List.nodup_cons.1 HND.out).1
            rw [List.getElem_cons_succ] at e
            exact this (e ▸ List.getElem_mem hib))
          have c2 := K.out.ring.cell2_id hmem
          rw [List.getElem_cons_succ, hvi] at c2
          rw [List.getElem_cons_succ] at hne
          have hta := run_assert_int l[i]
          by_cases hgt : x < l[i]
          · rw [posB_go hil hgt] at hpb
            have HPB := Lib.hid hpb
            clear hpb hvi
            have hpv := K.out.ring.pv_succ HP.out (fun _ h => h) i hj
            have HPV := Lib.hid hpv
            clear hpv
            rw [List.getElem_cons_succ] at *
            generalize l[i] = y at *
            go_wp2_with fail
            refine (prev_id K.out.ring hmem).mono ?_
            rintro e w3 ⟨rfl, k3, _⟩
            rw [HPV.out]
            have K3 := Lib.hid (K.out.after k3)
            clear k3
            go_wp2
            go_roundg i
            case rel => exact ⟨by omega, rfl, HPB.out, K3.out⟩
            case measure => omega
          · rw [posB_stop hil hgt] at hpb
            have HPB := Lib.hid hpb
            clear hpb hvi
            generalize l[i] = y at *
            go_wp2_with fail
            refine (link_id (K.out.ring.add (I x)) (.inl (List.getElem_mem hj)) (.inr rfl)).mono ?_
            rintro e w3 ⟨rfl, k3, _, _⟩
            have H3 := Lib.hid (holds_insert K.out.ring HP.out HND.out HVL.out HG.out (bl_chg HB.out K.out.chg fun i hi => HG.out i ((At_id i).1 hi)) x (i + 1) hj k3)
            clear k3
            go_wp2
            go_roundw
            case rel => exact ⟨k + 1, by omega, by go_num, by rw [HT.out]; unfold insS; rw [← HPB.out]; exact H3.out⟩
            case measure => simp [intOf]; omega
    · obtain rfl : k = xs.length := by omega
      rw [List.take_length] at hh
      have hll : (sorted xs).length ≤ 17592186043904 := by rw [sorted_len]; exact hl
      clear hsl
      generalize sorted xs = l at *
      obtain ⟨bs, nx, pv, val, hring, hpath, hnd, hval, hge, hbl⟩ := hh
      have HRI := Lib.hid hring
      have HP := Lib.hid hpath
      have HND := Lib.hid hnd
      have HVL := Lib.hid hval
      have HG := Lib.hid hge
      have HB := Lib.hid hbl
      have hbl' : bs.length = l.length := by have := congrArg List.length hval; simpa using this
      have HBL := Lib.hid hbl'
      clear hring hpath hnd hval hge hbl hbl'
      go_wp2_with fail
      have hring2 := HRI.out.bl (bl_alloc (bl_refl wr) (.cells #[] 3))
      refine (next_id hring2 (by simp)).mono ?_
      rintro e w2 ⟨rfl, k2, _⟩
      have hown2 := k2.own hring2 (own_empty wr 3 1) (by decide)
      have O2 := Lib.hid (own_base hown2 HB.out.size)
      have B2 := Lib.hid (bl_chg (bl_alloc HB.out _) k2.chg fun i hi => HG.out i ((At_id i).1 hi))
      have K2 := Lib.hid k2.ring
      clear k2 hown2 hring2
      go_wp2
      obtain ⟨wo, rfl⟩ : ∃ wo : World, wo = wr := ⟨_, rfl⟩
      go_loopg [7, 8] bs.length (fun g o r ws => ∃ j q, j + g = bs.length ∧ r = P q ∧ Path nx q (bs.drop j) root ∧ OwnI ws w.heap.size o (l.take j) ∧ Ring ws (· ∈ root :: bs) id nx pv val ∧ Bl w ws)
      case atStart => exact ⟨0, nx root, by omega, rfl, HP.out.2, O2.out, K2.out, B2.out⟩
      case round =>
        obtain ⟨j, q, hjg, rfl, hpq, hown, hring, hbl⟩ := hrel
        have HO := Lib.hid hown
        have HR2 := Lib.hid hring
        have HB2 := Lib.hid hbl
        have HJ := Lib.hid hjg
        clear hown hring hbl
        by_cases hj : j < bs.length
        · rw [List.drop_eq_getElem_cons hj] at hpq
          obtain ⟨rfl, hp2⟩ := hpq
          have HP2 := Lib.hid hp2
          have hjl : j < l.length := by have := HBL.out; omega
          obtain ⟨_, hvj⟩ := map_get HVL.out j hjl
          have hmem : bs[j] ∈ root :: bs := by simp
          have hne := HR2.out.neq_id hmem (show root ∈ root :: bs by simp) (fun e => (List.nodup_cons.1 HND.out).1 (e ▸ List.getElem_mem hj))
          have c2 := HR2.out.cell2_id hmem
          rw [hvj] at c2
          have hta := run_assert_int l[j]
          have hlen : (l.take j).length = j := by rw [List.length_take]; omega
          have HLEN := Lib.hid hlen
          have hsnoc := Lib.hid (List.take_succ_eq_append_getElem hjl)
          clear hp2 hvj hjg hlen
          generalize l[j] = y at *
          generalize bs[j] = q at *
          go_wp2_with (at_builtin; go_must (refine wpList_push wr rfl (.tmp 47) (.tmp 53) _ rfl w.heap.size 3 i0 _ 8 Try.underlying22 hi hz0 hz1 hz2 rfl u7 _ _ rfl HO.out (.int .i64 y) rfl rfl rfl (by rw [HLEN.out]; omega) (by rw [HLEN.out]; omega) HB2.out.size ?_); intro v1 w4 hown4 hchg4 hloc4)
          have HO4 := Lib.hid hown4
          have HR4 := Lib.hid (HR2.out.chg hchg4 (HR2.out.ne_own HO.out (by decide)))
          have HB4 := Lib.hid (bl_own HB2.out HO.out hchg4)
          clear hown4 hchg4 hloc4
          go_wp2_with fail
          refine (next_id HR4.out hmem).mono ?_
          rintro e w5 ⟨rfl, k5, _⟩
          have HO5 := Lib.hid (k5.own HR4.out HO4.out (by decide))
          have HB5 := Lib.hid (bl_chg HB4.out k5.chg fun i hi => HG.out i ((At_id i).1 hi))
          have HR5 := Lib.hid k5.ring
          clear k5
          go_wp2
          go_roundg (bs.length - (j + 1))
          case rel =>
            refine ⟨j + 1, _, by omega, rfl, HP2.out, ?_, HR5.out, HB5.out⟩
            rw [hsnoc.out]
            exact OwnI.snoc HO5.out
          case measure => have := HJ.out; omega
        · have hjb : j = bs.length := by omega
          subst hjb
          rw [List.drop_length] at hpq
          have e : q = root := hpq
          subst e
          have hne := run_neq_same q wr
          clear hpq hjg
          go_wp2
          go_ret
          refine ⟨_, rfl, ?_, HB2.out⟩
          have h := HO.out
          rw [HBL.out, List.take_length] at h
          exact h

end Go.Proofs.Ytgjackalcajmjaa
