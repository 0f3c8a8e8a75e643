/- The walk of DealRing over lists in a ring. -/
import Derived.Test.YtgjackalcajmjaaDealDo
namespace Go.Proofs.Ytgjackalcajmjaa
open Go.RowKit

/-- The hands in a ring of H elements at B on: the first t of them have their lists. -/
structure DealR (w wr : World) (B H : Nat) (L : List LT) : Prop where
  hands : HandsL w wr L
  ring : Ring wr (· < H) (B + ·) (nxc H) (pvc H) (fun j => match L[j]? with | some x => IL x.1 | none => .nilIface)
  init : ∀ j, j < H → Inited wr (B + j)
  ge : w.heap.size ≤ B
  bl : Bl w wr

theorem DealR.add {w wr w2 : World} {B H l : Nat} {L : List LT} (h : DealR w wr B H L) (hj : L.length < H) (hl : LC w2 l [] []) (hle : wr.heap.size ≤ l) (hb : Bl wr w2) : DealR w (w2.setCell ⟨B + L.length, 2, none⟩ (IL l)) B H (L ++ [(l, [], [])]) := by
  have hm := h.hands.more (xs := []) hb hl (fun b hb' => by simp at hb'; subst hb'; exact hle) h.bl.size
  have hr2 := h.ring.bl hb
  obtain ⟨h1, h2⟩ := hr2.setVal (i := L.length) hj (IL l)
  have hchg : Chg (fun k => k = B + L.length) w2 (w2.setCell ⟨B + L.length, 2, none⟩ (IL l)) := Chg.setCell (S := fun k => k = B + L.length) (Chg.refl _ _) (p := ⟨B + L.length, 2, none⟩) rfl _
  refine ⟨hm.chg hchg (fun t ht x hx e => ?_), ?_, fun i hi => h2 _ ?_, h.ge, bl_set (bl_trans h.bl hb) (p := ⟨B + L.length, 2, none⟩) (Nat.le_trans h.ge (Nat.le_add_right _ _)) _⟩
  · exact (hm.lc t ht).ne_ring hr2 x hx ⟨L.length, hj, e⟩
  · refine ⟨fun i hi => ?_, h1.inj, h1.nxD, h1.pvD, h1.pn, h1.np⟩
    have h3 := h1.node i hi
    have e : (if i = L.length then IL l else match L[i]? with | some x => IL x.1 | none => Value.nilIface) = match (L ++ [(l, [], [])])[i]? with | some x => IL x.1 | none => Value.nilIface := by
      by_cases h4 : i = L.length
      · subst h4
        rw [if_pos rfl, List.getElem?_append_right (Nat.le_refl _), Nat.sub_self]; rfl
      · rw [if_neg h4]
        by_cases h5 : i < L.length
        · rw [List.getElem?_append_left h5]
        · rw [List.getElem?_eq_none (by omega), List.getElem?_eq_none (by simp; omega)]
    simp only [e] at h3
    exact h3
  · obtain ⟨n, p, v, e⟩ := h.init i hi
    exact ⟨n, p, v, (hb.block _ (lt_of_heap e)).trans e⟩
theorem DealR.kept {w wr w2 : World} {B H : Nat} {L : List LT} (h : DealR w wr B H L) (hk : Kept wr (· < H) (B + ·) (nxc H) (pvc H) (fun j => match L[j]? with | some x => IL x.1 | none => .nilIface) w2) : DealR w w2 B H L :=
  ⟨h.hands.chg hk.chg (fun t ht x hx => (h.hands.lc t ht).ne_ring h.ring x hx), hk.ring, fun j hj => hk.inited _ (h.init j hj), h.ge, bl_chg h.bl hk.chg (by rintro i ⟨j, _, e⟩; subst e; exact Nat.le_trans h.ge (Nat.le_add_right _ _))⟩
theorem DealR.push {w wr w2 : World} {B H l t : Nat} {es : List Nat} {ys : List Int} {v : Int} {L : List LT} (h : DealR w wr B H L) (hL : L[t]? = some (l, es, ys))
    (h2 : LC w2 l (es ++ [wr.heap.size]) ((ys ++ [v]).map I)) (c2 : Chg (· ∈ l :: es) wr w2) : DealR w w2 B H (L.set t (l, es ++ [wr.heap.size], ys ++ [v])) := by
  have hs : HandsL w w2 (L.set t (l, es ++ [wr.heap.size], ys ++ [v])) := by
    refine h.hands.set hL h2 c2 (fun x hx => ?_) h.bl.size
    simp only [LT.blk, List.mem_cons, List.mem_append] at hx ⊢
    rcases hx with h | h | h
    · exact .inl (.inl h)
    · exact .inl (.inr h)
    · simp at h; exact .inr (by omega)
  have hlc := h.hands.lc _ (List.mem_of_getElem? hL)
  have hne : ∀ i, i < H → ¬ (B + i) ∈ l :: es := fun i hi hx => hlc.ne_ring h.ring _ hx ⟨i, hi, rfl⟩
  have hr := h.ring.chg c2 hne
  refine ⟨hs, ⟨fun i hi => ?_, hr.inj, hr.nxD, hr.pvD, hr.pn, hr.np⟩, fun j hj => ?_, h.ge, bl_chg h.bl c2 (fun i hi => h.hands.ge _ (List.mem_of_getElem? hL) i hi)⟩
  · have h3 := hr.node i hi
    have e : (match L[i]? with | some x => IL x.1 | none => Value.nilIface) = match (L.set t (l, es ++ [wr.heap.size], ys ++ [v]))[i]? with | some x => IL x.1 | none => Value.nilIface := by
      rw [List.getElem?_set]
      by_cases h4 : t = i
      · subst h4
        rw [if_pos rfl, if_pos (List.getElem?_eq_some_iff.1 hL).1, hL]
      · rw [if_neg h4]
    simp only [e] at h3
    exact h3
  · obtain ⟨n, p, x, e⟩ := h.init j hj
    exact ⟨n, p, x, (c2.block _ (lt_of_heap e) (hne j hj)).trans e⟩

set_option maxHeartbeats 4000000 in
theorem DealRing_impl (v : Value) (xs : List Int) (k : Int) (w : World) (hv : Ints w v xs) (hl : xs.length ≤ 17592186043904) :
    Calls Try.prog 16 #[v, .int .i64 k] w (NewSS w (dealOf xs k)) := by
  obtain ⟨A, c, rfl, hc, hm, hv⟩ := hv.open
  have HV := Lib.hid hv
  clear hv
  unfold maxLen at hm
  have HD : Hid (dealOf xs k = deal (handsOf k) xs) := rfl
  have hh := handsOf_bd k
  go_enter Try.func16, Try.ntmps16
  go_wp2_with fail
  refine (hands_any k _).mono ?_
  rintro e w0 ⟨rfl, rfl⟩
  generalize handsOf k = H at *
  obtain ⟨hh1, hh2⟩ := hh
  go_wp2_with fail
  refine (new_some H hh1 (by omega) _).mono ?_
  rintro e w1 ⟨rfl, h1⟩
  have HDR : Hid (DealR w w1 w.heap.size H []) := ⟨⟨fun t ht => (by cases ht), fun i j a b _ hi => by simp at hi, fun t ht => (by cases ht)⟩, h1.ring, h1.inited, Nat.le_refl _, h1.bl⟩
  clear h1
  generalize hB : w.heap.size = B at *
  have HB := Lib.hid hB
  clear hB
  go_wp2
  go_loopw [5, 6] (fun r i wr => ∃ j : Nat, j ≤ H ∧ i = .int .i64 j ∧ r = P (B + (if j < H then j else 0)) ∧ ∃ L, DealR w wr B H L ∧ L.length = j ∧ L.map (fun x => x.2.2) = List.replicate j []) (fun _ i _ => H - (intOf i).toNat)
  case atStart => exact ⟨0, Nat.zero_le _, rfl, by rw [if_pos hh1]; rfl, [], HDR.out, rfl, rfl⟩
  case round =>
    obtain ⟨j, hj, rfl, rfl, L, hdr, hLj, hLe⟩ := hrel
    clear HDR
    have HDR := Lib.hid hdr
    have HLJ := Lib.hid hLj
    have HLE := Lib.hid hLe
    clear hdr hLj hLe
    by_cases hlt : j < H
    · rw [if_pos hlt]
      go_wp2_with fail
      refine (lnew_any _).mono ?_
      rintro e w2 ⟨rfl, h2, b2, hs2⟩
      clear hs2
      have H2 := Lib.hid h2
      have B2 := Lib.hid b2
      clear h2 b2
      generalize hnl : wr.heap.size = nl at *
      have HNL := Lib.hid hnl
      clear hnl
      obtain ⟨a1, a2, hh', _⟩ := (HDR.out.ring.bl B2.out).node j hlt
      have c2 : w2.cell? ⟨B + j, 2, none⟩ = some _ := cell_of_heap hh'
      have f2 : w2.frozen? ⟨B + j, 2, none⟩ = false := frozen_of_heap hh'
      have hadd := HDR.out.add (by rw [HLJ.out]; exact hlt) H2.out (by rw [HNL.out]; exact Nat.le_refl _) B2.out
      rw [HLJ.out] at hadd
      have HADD := Lib.hid hadd
      clear hadd hh'
      simp at c2
      go_wp2_with fail
      refine (next_ring HADD.out.ring (i := j) hlt).mono ?_
      rintro e w3 ⟨rfl, k3, _⟩
      have H3 := Lib.hid (HADD.out.kept k3)
      clear k3 c2 f2
      go_wp2
      go_roundw
      case rel => exact ⟨j + 1, by omega, by go_num, by unfold nxc; rfl, _, H3.out, by rw [List.length_append, HLJ.out]; rfl, by rw [List.map_append, HLE.out, List.replicate_succ']; rfl⟩
      case measure => simp [intOf]; omega
    · obtain rfl : j = H := by omega
      rw [if_neg (by omega), Nat.add_zero]
      have HDT : Hid (dealTo j xs 0 = List.replicate j []) := rfl
      go_wp2
      go_loopw [5, 9, 30] (fun r _ i wr => ∃ m : Nat, m ≤ xs.length ∧ i = .int .i64 m ∧ r = P (B + m % j) ∧ ∃ L, DealR w wr B j L ∧ L.length = j ∧ L.map (fun x => x.2.2) = dealTo j xs m) (fun _ _ i _ => xs.length - (intOf i).toNat)
      case atStart => exact ⟨0, Nat.zero_le _, rfl, by rw [Nat.zero_mod, Nat.add_zero], L, HDR.out, HLJ.out, by rw [HDT.out]; exact HLE.out⟩
      case round =>
        clear HDR HLJ HLE L
        obtain ⟨m, hm', rfl, rfl, L, hdr, hLj, hLe⟩ := hrel
        have HDR := Lib.hid hdr
        have HLJ := Lib.hid hLj
        have HLE := Lib.hid hLe
        clear hdr hLj hLe
        by_cases hlt : m < xs.length
        · obtain ⟨b, off, rfl, hc1⟩ := HV.out m hlt
          have r1 := (HDR.out.bl.cell (World.block_lt_of_cell? _ _ hc1)).trans hc1
          clear hc1
          have ht : m % j < j := Nat.mod_lt _ hh1
          have htL : m % j < L.length := by rw [HLJ.out]; exact ht
          have hDS : Hid (dealTo j xs (m + 1) = (dealTo j xs m).set (m % j) ((dealTo j xs m).getD (m % j) [] ++ [xs[m]])) := by
            show dealTo j xs (m + 1) = _
            rw [dealTo]
            congr 3
            rw [List.getD_eq_getElem?_getD, List.getElem?_eq_getElem hlt]; rfl
          have HMS : Hid ((m + 1) % j = nxc j (m % j)) := by
            show (m + 1) % j = _
            rw [nxc_mod j _ ht, Nat.mod_add_mod]
          generalize xs[m] = x at *
          obtain ⟨l, es, ys, hLt⟩ : ∃ l es ys, L[m % j] = (l, es, ys) := ⟨_, _, _, rfl⟩
          have hL : L[m % j]? = some (l, es, ys) := by rw [List.getElem?_eq_getElem htL, hLt]
          have HL := Lib.hid hL
          have HYS : Hid (ys = (dealTo j xs m).getD (m % j) []) := by
            show ys = _
            rw [← HLE.out, List.getD_eq_getElem?_getD, List.getElem?_map, HL.out]; rfl
          have HHL := Lib.hid (HDR.out.hands.lc _ (List.mem_of_getElem? HL.out))
          have hc3 : wr.cell? ⟨B + m % j, 2, none⟩ = some (IL l) := by
            obtain ⟨a, c', e, _⟩ := HDR.out.ring.node (m % j) ht
            rw [cell_of_heap e, HL.out]; rfl
          have hta2 := run_assert_list l
          have hesl : es.length ≤ 4611686018427387904 := by
            have h1 := HHL.out.len_eq
            simp only [List.length_map] at h1
            have h2 := dealTo_sum j hh1 xs m
            have h3 : ys.length ≤ ((dealTo j xs m).map List.length).sum := by
              rw [← HLE.out]
              refine le_sum (List.mem_map.2 ⟨ys, List.mem_map.2 ⟨(l, es, ys), List.mem_of_getElem? HL.out, rfl⟩, rfl⟩)
            omega
          clear hL hLt
          go_wp2_with fail
          refine (pushBack_lc HHL.out _ _ hesl).mono ?_
          rintro e w3 ⟨rfl, h3, c3⟩
          have H3 : Hid (DealR w w3 B j (L.set (m % j) (l, es ++ [wr.heap.size], ys ++ [x]))) := HDR.out.push HL.out (by rw [List.map_append]; exact h3) c3
          clear h3 c3 hc3
          go_wp2_with fail
          refine (next_ring H3.out.ring (i := m % j) ht).mono ?_
          rintro e w4 ⟨rfl, k4, _⟩
          have H4 := Lib.hid (H3.out.kept k4)
          clear k4
          go_wp2
          go_roundw
          case rel =>
            exact ⟨m + 1, by omega, by go_num, by rw [HMS.out], L.set (m % j) (l, es ++ [wr.heap.size], ys ++ [x]), H4.out, by rw [List.length_set]; exact HLJ.out, by rw [set_map, HLE.out, hDS.out, ← HYS.out]⟩
          case measure => simp [intOf]; omega
        · obtain rfl : m = xs.length := by omega
          go_wp2_with fail
          obtain ⟨W, hW⟩ : ∃ W, W = (wr.alloc (.cells #[] 22)).alloc (.cells #[.slice (some ⟨wr.heap.size, 0, none⟩) 0 0] 25) := ⟨_, rfl⟩
          rw [← hW]
          have hb : Bl wr W := by rw [hW]; exact bl_alloc (bl_alloc (bl_refl _) _) _
          have hacc : AccS W (wr.heap.size + 1) wr.heap.size [] := by
            refine ⟨.slice (some ⟨wr.heap.size, 0, none⟩) 0 0, [], ?_, ⟨?_, fun k hk => absurd hk (by simp), fun i j a b hij hi hj => by simp at hi⟩, by omega⟩
            · rw [hW]
              have h := heap_alloc_new (wr.alloc (.cells #[] 22)) (.cells #[.slice (some ⟨wr.heap.size, 0, none⟩) 0 0] 25)
              rwa [World.size_alloc] at h
            · rw [hW]; exact (own_empty wr 22 1).alloc _
          have HACC := Lib.hid hacc
          have HBW := Lib.hid hb
          clear hW hb hacc
          have HHB := Lib.hid (HDR.out.hands.bl HBW.out)
          obtain ⟨p1, p2⟩ := path_rot j 0 hh1
          have hget : ∀ x, x < j → ∃ hx : x < L.length, L[x]? = some L[x] ∧ (L.getD x (0, [], [])) = L[x] := fun x hx => by
            have hx' : x < L.length := by rw [HLJ.out]; exact hx
            exact ⟨hx', List.getElem?_eq_getElem hx', by rw [List.getD_eq_getElem?_getD, List.getElem?_eq_getElem hx']; rfl⟩
          have hsum := dealTo_sum j hh1 xs xs.length
          rw [← HLE.out] at hsum
          have hdo := do_deal (HDR.out.ring.bl HBW.out) (r := 0) hh1 ((rot (List.range j) 0).tail) p1 (rot_nodup j 0 hh1) (fun x hx => (rot_mem j 0 x).1 (List.mem_of_mem_tail hx)) (fun x => L.getD x (0, [], []))
            (fun x hx => by obtain ⟨hx', h1, h2⟩ := hget x hx; simp only [h2]; rw [h1])
            (wr.heap.size + 1) wr.heap.size [] HACC.out
            (fun x hx => by obtain ⟨hx', h1, h2⟩ := hget x hx; rw [h2]; exact HHB.out.lc _ (List.getElem_mem hx'))
            (fun x hx b hb => by obtain ⟨hx', h1, h2⟩ := hget x hx; rw [h2] at hb; exact HDR.out.hands.lt (List.getElem_mem hx') hb)
            (fun x hx => HDR.out.ring.lt hx)
            (fun x hx => by
              obtain ⟨hx', h1, h2⟩ := hget x hx
              rw [h2]
              have h3 : L[x].2.2.length ≤ ((L.map fun x => x.2.2).map List.length).sum := le_sum (List.mem_map.2 ⟨_, List.mem_map.2 ⟨_, List.getElem_mem hx', rfl⟩, rfl⟩)
              omega)
            (fun x hx => by obtain ⟨n, p, v, e⟩ := HDR.out.init x hx; exact ⟨n, p, v, (HBW.out.block _ (lt_of_heap e)).trans e⟩)
            (by rw [List.length_tail, rot_len, List.length_range]; simp; omega)
          have hmap : (0 :: (rot (List.range j) 0).tail).map (fun x => (L.getD x (0, [], [])).2.2) = L.map fun x => x.2.2 := by
            rw [p2, show rot (List.range j) 0 = List.range j by simp [rot]]
            apply List.ext_getElem
            · rw [List.length_map, List.length_map, List.length_range, HLJ.out]
            · intro i h1 h2
              rw [List.length_map] at h2
              rw [List.getElem_map, List.getElem_map, List.getElem_range]
              obtain ⟨hx', h3, h4⟩ := hget i (by rw [← HLJ.out]; exact h2)
              rw [h4]
          rw [hmap] at hdo
          have HDO := Lib.hid hdo
          clear hdo hmap hget p1 p2 hsum
          refine HDO.out.mono ?_
          rintro e w5 ⟨rfl, a5, c5⟩
          obtain ⟨s5, us5, hs5, hown5, _⟩ := a5
          have c0 : w5.cell? ⟨wr.heap.size + 1, 0, none⟩ = some s5 := by rw [cell_of_heap hs5]; rfl
          rw [List.nil_append] at hown5
          obtain ⟨A5, cc5, hv5, _, _, _⟩ := own_open hown5.own
          subst hv5
          have HO5 := Lib.hid (hown5.base HDR.out.bl.size)
          have HDE : Hid (dealOf xs k = L.map fun x => x.2.2) := by
            show _ = _
            rw [HD.out, HLE.out]; rfl
          have HB5 : Hid (Bl w w5) := by
            refine bl_chg (bl_trans HDR.out.bl HBW.out) c5 ?_
            rintro i (⟨y, _, e⟩ | h)
            · rw [e]; exact Nat.le_trans HDR.out.ge (Nat.le_add_right _ _)
            · exact Nat.le_trans HDR.out.bl.size h
          clear c5 hown5 hs5
          go_wp2
          go_ret
          exact ⟨_, _, rfl, by rw [HDE.out]; have h5 := HO5.out; rw [List.length_map] at h5; exact h5, HB5.out⟩

end Go.Proofs.Ytgjackalcajmjaa
