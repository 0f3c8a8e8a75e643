/- The walk of PlayList over a list. -/
import Derived.Test.YthgghafndabpfaaPlayStep
import Derived.Test.YthgghafndabpfaaSortList
import Derived.Test.YthgghafndabpfaaListMove2
namespace Go.Proofs.Ythgghafndabpfaa
open Go.RowKit

theorem elemInfo : (Try.prog.info? 40).map (fun i => (i.zero, i.size, i.bytes)) = some (some (.pointer none), 1, 8) := by kernel_rfl

/-- A list of numbers from 0 on whose elements are at known places, in an order. -/
structure PlayL (w wr : World) (l : Nat) (ad : Nat → Nat) (N : Nat) (ev : Value) (xs : List Int) : Prop where
  lc : LC wr l (xs.map fun x => ad x.toNat) (xs.map I)
  ge : w.heap.size ≤ l ∧ ∀ i, i < N → w.heap.size ≤ ad i
  bl : Bl w wr
  el : wr.ownsRow w.heap.size 40 1 ev N ((List.range N).map fun i => P (ad i))
  ord : Ord N xs

theorem PlayL.elem_cell {w wr : World} {l N c : Nat} {A : Option Addr} {ad : Nat → Nat} {xs : List Int} (h : PlayL w wr l ad N (.slice A N c) xs) {k : Nat} (hk : k < N) :
    ∃ g, A = some ⟨g, 0, none⟩ ∧ wr.cell? ⟨g, k, none⟩ = some (P (ad k)) := by
  obtain ⟨A', c', e, _, _, hA⟩ := own_open h.el
  simp at e
  obtain ⟨rfl, rfl⟩ := e
  obtain ⟨g, rfl, _, _⟩ := hA (by omega)
  refine ⟨g, rfl, ?_⟩
  rw [own_cell h.el (by omega), List.getD_eq_getElem?_getD, List.getElem?_map, List.getElem?_range hk]
  rfl
theorem PlayL.blk {w wr : World} {l N : Nat} {ev : Value} {ad : Nat → Nat} {xs : List Int} (h : PlayL w wr l ad N ev xs) : ∀ b ∈ l :: (xs.map fun x => ad x.toNat), w.heap.size ≤ b := by
  intro b hb
  rcases List.mem_cons.1 hb with rfl | hb
  · exact h.ge.1
  · obtain ⟨x, hx, rfl⟩ := List.mem_map.1 hb
    have := (h.ord.mem x).1 hx
    exact h.ge.2 _ (by omega)
theorem PlayL.step {w wr w2 w3 : World} {l N : Nat} {ev : Value} {ad : Nat → Nat} {xs ys : List Int} (h : PlayL w wr l ad N ev xs) (hb : Bl wr w2) (h3 : LC w3 l (ys.map fun x => ad x.toNat) (ys.map I)) (hc : Chg (· ∈ l :: (xs.map fun x => ad x.toNat)) w2 w3) (ho : Ord N ys) : PlayL w w3 l ad N ev ys :=
  ⟨h3, h.ge, bl_chg (bl_trans h.bl hb) hc h.blk, (h.lc.bl hb).own hc (own_bl h.el hb) (by decide) (by decide), ho⟩
theorem PlayL.at {w wr : World} {l N : Nat} {ev : Value} {ad : Nat → Nat} {xs : List Int} (h : PlayL w wr l ad N ev xs) {e : Nat} (he : e < N) :
    (xs.map fun x => ad x.toNat)[xs.idxOf (e : Int)]? = some (ad e) ∧ (xs.map I)[xs.idxOf (e : Int)]? = some (I (e : Int)) := by
  have := idx_get (h.ord.has he)
  rw [List.getElem?_map, List.getElem?_map, this]
  exact ⟨by simp, rfl⟩
theorem PlayL.mk_at {w wr : World} {l N : Nat} {ev : Value} {ad : Nat → Nat} {xs : List Int} (h : PlayL w wr l ad N ev xs) {e m : Nat} (he : e < N) (hm : m < N) (hne : e ≠ m) :
    ((xs.map fun x => ad x.toNat).eraseIdx (xs.idxOf (e : Int)))[(xs.eraseIdx (xs.idxOf (e : Int))).idxOf (m : Int)]? = some (ad m) := by
  have := idx_get (mem_erase h.ord he hm hne)
  rw [← map_eraseIdx', List.getElem?_map, this]
  simp

theorem nums_map' (n : Nat) : nums n = (List.range n).map (fun j : Nat => (j : Int)) := by
  induction n with
  | zero => rfl
  | succ n ih => rw [List.range_succ, List.map_append, ← ih, nums_succ]; rfl
theorem map_getD {es : List Nat} {n : Nat} (h : es.length = n) : (List.range n).map (fun i => es.getD i 0) = es := by
  subst h
  apply List.ext_getElem (by simp)
  intro i h1 h2
  simp [List.getD_eq_getElem?_getD, h2]
theorem nums_getD {es : List Nat} {n : Nat} (h : es.length = n) : (nums n).map (fun x => es.getD x.toNat 0) = es := by
  rw [nums_map', List.map_map]
  exact map_getD h

set_option maxRecDepth 100000 in
set_option maxHeartbeats 4000000 in
theorem PlayList_impl (a : Int) (v : Value) (ms : List Mv) (w : World) (hv : Mvs w v ms) : Calls Try.prog 5 #[.int .i64 a, v] w (NewInts w (playOf a ms)) := by
  obtain ⟨i0, hi, hz0, hz1, hz2⟩ := info_parts elemInfo
  obtain ⟨A, c, rfl, hc, hm, hv⟩ := hv.open
  have hn := ix_lt a (n := 200) (by omega)
  have HV := Lib.hid hv
  clear hv
  unfold maxLen at hm
  go_enter Try.func5, Try.ntmps5
  go_wp2_with fail
  refine (at_ix a 200 _ (by omega) (by omega)).mono ?_
  rintro e w0 ⟨rfl, rfl⟩
  have HP : Hid (playOf a ms = play (ix a 200) ms) := rfl
  generalize ix a 200 = N at *
  go_wp2_with fail
  refine (lnew_any _).mono ?_
  rintro e w1 ⟨rfl, h1, b1, hs1⟩
  clear hs1
  have H1 := Lib.hid h1
  have B1 := Lib.hid b1
  clear h1 b1
  generalize hroot : w0.heap.size = root at *
  have HR := Lib.hid hroot
  clear hroot
  go_wp2
  go_loopw [6, 7] (fun ev i wr => ∃ j : Nat, j ≤ N ∧ i = .int .i64 j ∧ ∃ es : List Nat, es.length = j ∧ LC wr root es ((nums j).map I) ∧ (∀ b ∈ root :: es, w0.heap.size ≤ b) ∧ wr.ownsRow w0.heap.size 40 1 ev j (es.map P) ∧ Bl w0 wr) (fun _ i _ => N - (intOf i).toNat)
  case atStart => exact ⟨0, Nat.zero_le _, rfl, [], rfl, H1.out.bl (bl_alloc (bl_refl _) _), by simp [HR.out], own_base (own_empty _ _ _) B1.out.size, bl_alloc B1.out _⟩
  case round =>
    obtain ⟨j, hj, rfl, es, hel, hlc, hge, hev, hbl⟩ := hrel
    have HEL := Lib.hid hel
    have HLC := Lib.hid hlc
    have HGE := Lib.hid hge
    have HEV := Lib.hid hev
    have HBL := Lib.hid hbl
    clear hel hlc hge hev hbl
    by_cases hlt : j < N
    · go_wp2_with fail
      refine (pushBack_lc HLC.out _ _ (by have := HEL.out; omega)).mono ?_
      rintro e w3 ⟨rfl, h3, c3⟩
      obtain ⟨x1, x2⟩ := list_grow HBL.out HGE.out c3
      have HEV3 := Lib.hid (HLC.out.own c3 HEV.out (by decide) (by decide))
      have HLC3 := Lib.hid h3
      have HGE3 := Lib.hid x1
      have HBL3 := Lib.hid x2
      clear h3 c3 x1 x2
      generalize hnb : wr.heap.size = nb at *
      clear hnb
      go_wp2_with (at_builtin; go_must (refine wpList_push w3 rfl (.tmp 21) (.tmp 26) _ rfl w0.heap.size 40 i0 _ 8 Try.underlying39 hi hz0 hz1 hz2 rfl u6 j _ rfl HEV3.out (P nb) rfl rfl rfl (by omega) (by omega) HBL3.out.size ?_); intro v1 w4 hown1 hchg1 hloc1)
      have HEV4 := Lib.hid hown1
      have HLC4 := Lib.hid (HLC3.out.chg hchg1 (HLC3.out.ne_own HEV3.out (by decide) (by decide)))
      have HBL4 := Lib.hid (bl_own HBL3.out HEV3.out hchg1)
      clear hown1 hchg1 hloc1
      go_roundw
      case rel => exact ⟨j + 1, by omega, by go_num, es ++ [nb], by rw [List.length_append, HEL.out]; rfl, by rw [nums_succ, List.map_append]; exact HLC4.out, HGE3.out, by rw [List.map_append]; exact HEV4.out, HBL4.out⟩
      case measure => simp [intOf]; omega
    · obtain rfl : j = N := by omega
      have hpl : PlayL w0 wr root (fun i => es.getD i 0) j u6 (nums j) := by
        refine ⟨?_, ⟨HGE.out root (by simp), fun i hi => ?_⟩, HBL.out, ?_, nums_ord j⟩
        · rw [nums_getD HEL.out]; exact HLC.out
        · have hi' : i < es.length := by rw [HEL.out]; exact hi
          show w0.heap.size ≤ es.getD i 0
          rw [List.getD_eq_getElem?_getD, List.getElem?_eq_getElem hi']
          exact HGE.out _ (List.mem_cons_of_mem _ (List.getElem_mem hi'))
        · have e : (List.range j).map (fun i => P (es.getD i 0)) = es.map P := by
            conv => rhs; rw [← map_getD HEL.out, List.map_map]
            rfl
          rw [e]; exact HEV.out
      obtain ⟨A1, c1, rfl, hc1, hm1, _⟩ := own_open HEV.out
      have HPL := Lib.hid hpl
      clear hpl HEL HLC HGE HEV HBL
      generalize (fun i => es.getD i 0) = ad at *
      unfold maxLen at hm1
      go_wp2
      go_loopw [9, 10, 11, 30] (fun _ _ _ i wr => ∃ k : Nat, k ≤ ms.length ∧ i = .int .i64 k ∧ PlayL w0 wr root ad j (.slice A1 j c1) ((ms.take k).foldl (playStep j) (nums j))) (fun _ _ _ i _ => ms.length - (intOf i).toNat)
      case atStart => exact ⟨0, Nat.zero_le _, rfl, HPL.out⟩
      case round =>
        clear HPL
        obtain ⟨k, hk, rfl, hpl⟩ := hrel
        have HPL := Lib.hid hpl
        clear hpl
        by_cases hlt : k < ms.length
        · obtain ⟨b, off, rfl, hc1', hc2', hc3'⟩ := HV.out k hlt
          have r1 := (HPL.out.bl.cell (World.block_lt_of_cell? _ _ hc1')).trans hc1'
          have r2 := (HPL.out.bl.cell (World.block_lt_of_cell? _ _ hc2')).trans hc2'
          have r3 := (HPL.out.bl.cell (World.block_lt_of_cell? _ _ hc3')).trans hc3'
          have HF := Lib.hid (fold_take (n := j) ms (nums j) k hlt)
          clear hc1' hc2' hc3'
          generalize (ms.take k).foldl (playStep j) (nums j) = xs at *
          generalize ms[k] = m at *
          obtain ⟨op, em, mm⟩ := m
          rcases Nat.eq_zero_or_pos j with hN0 | hN0
          · subst hN0
            have hx : xs = [] := List.eq_nil_of_length_eq_zero HPL.out.ord.len
            subst hx
            go_wp2_with fail
            refine (values_lc _ (HPL.out.lc.bl (bl_alloc (bl_refl _) _)) (by simp)).mono ?_
            rintro e w5 ⟨v5, rfl, o5, b5⟩
            have O5 := Lib.hid (own_base o5 (Nat.le_trans HPL.out.bl.size (by simp)))
            have B5 := Lib.hid (bl_trans (bl_alloc HPL.out.bl _) b5)
            clear o5 b5
            go_wp2
            go_ret
            exact ⟨_, rfl, by rw [HP.out]; exact O5.out, B5.out⟩
          · have hn0 : ((j : Int) == 0) = false := by rw [beq_eq_false_iff_ne]; omega
            have l1 := ix_lt em hN0
            have l2 := ix_lt mm hN0
            obtain ⟨g1, rfl, e1⟩ := HPL.out.elem_cell l1
            obtain ⟨g2, hg2, e2⟩ := HPL.out.elem_cell l2
            simp at hg2
            subst hg2
            have hgs := World.block_lt_of_cell? _ _ e1
            simp only at hgs
            go_wp2
            go_quiet ((go_at_call 15; exact Calls.quiet_of_same (at_ix _ j _ hN0 (by omega))))
            go_wp2_with fail
            obtain ⟨W, hW⟩ : ∃ W, W = (wr.alloc (.cells #[.int .i64 op, .int .i64 em, .int .i64 mm] 27)).drewN nq := ⟨_, rfl⟩
            rw [← hW]
            have hbW : Bl wr W := by rw [hW]; exact bl_drewN (bl_alloc (bl_refl _) _) _
            have BW := Lib.hid hbW
            clear hW hbW r1 r2 r3 e1 e2 hgs
            have l4 := ix_lt op (n := 4) (by omega)
            refine (at_ix op 4 _ (by omega) (by omega)).mono ?_
            rintro e w5 ⟨rfl, rfl⟩
            obtain ⟨p1, p2⟩ := HPL.out.at l1
            have HP1 := Lib.hid p1
            have HP2 := Lib.hid p2
            have HMK := Lib.hid (fun hne => HPL.out.mk_at l1 l2 hne)
            have HLC := Lib.hid (HPL.out.lc.bl BW.out)
            have HOF := Lib.hid (HPL.out.ord.step hN0 (op, em, mm))
            have HS0 := Lib.hid (fun h => step_front (n := j) xs (op, em, mm) h)
            have HS1 := Lib.hid (fun h => step_back (n := j) xs (op, em, mm) h)
            have HS2 := Lib.hid (fun h h' => step_after (n := j) xs (op, em, mm) h h')
            have HS3 := Lib.hid (fun h h' => step_before (n := j) xs (op, em, mm) h h')
            have HSN := Lib.hid (fun h h' => step_none (n := j) xs (op, em, mm) h h')
            have hme : ad (ix em j) ∈ xs.map fun x => ad x.toNat := List.mem_of_getElem? p1
            have HME := Lib.hid hme
            simp only at HS0 HS1 HS2 HS3 HSN
            clear p1 p2 hme
            generalize hQ : ix op 4 = Q at *
            clear hQ
            generalize ix em j = E at *
            generalize ix mm j = M at *
            generalize playStep j xs (op, em, mm) = ys at *
            rcases (by omega : Q = 0 ∨ Q = 1 ∨ Q = 2 ∨ Q = 3) with hq | hq | hq | hq
            · have HE := Lib.hid (HS0.out hq)
              subst hq
              go_wp2_with fail
              refine (moveToFront_lc HLC.out HP1.out HP2.out).mono ?_
              rintro e w6 ⟨rfl, h6, c6⟩
              have H3 := Lib.hid (HPL.out.step BW.out (ys := ys) (by rw [HE.out]; simp only [ins, List.take_zero, List.drop_zero, List.nil_append, List.map_cons, map_eraseIdx']; simpa using h6) c6 HOF.out)
              clear h6 c6
              go_wp2
              go_roundw
              case rel => exact ⟨k + 1, by omega, by go_num, by rw [HF.out]; exact H3.out⟩
              case measure => simp [intOf]; omega
            · have HE := Lib.hid (HS1.out hq)
              subst hq
              go_wp2_with fail
              refine (moveToBack_lc HLC.out HP1.out HP2.out).mono ?_
              rintro e w6 ⟨rfl, h6, c6⟩
              have H3 := Lib.hid (HPL.out.step BW.out (ys := ys) (by rw [HE.out]; simp only [ins, List.take_length, List.drop_length, List.map_append, List.map_cons, List.map_nil, map_eraseIdx']; simpa using h6) c6 HOF.out)
              clear h6 c6
              go_wp2
              go_roundw
              case rel => exact ⟨k + 1, by omega, by go_num, by rw [HF.out]; exact H3.out⟩
              case measure => simp [intOf]; omega
            · by_cases hem : E = M
              · have HE := Lib.hid (HSN.out (by omega) hem)
                subst hq hem
                go_wp2_with fail
                refine (moveAfter_same HLC.out HME.out).mono ?_
                rintro e w6 ⟨rfl, rfl⟩
                have H3 := Lib.hid (HPL.out.step BW.out (ys := ys) (by rw [HE.out]; exact HLC.out) (Chg.refl _ _) HOF.out)
                go_wp2
                go_roundw
                case rel => exact ⟨k + 1, by omega, by go_num, by rw [HF.out]; exact H3.out⟩
                case measure => simp [intOf]; omega
              · have HE := Lib.hid (HS2.out hq hem)
                have HM2 := Lib.hid (HMK.out hem)
                subst hq
                go_wp2_with fail
                refine (moveAfter_lc HLC.out HP1.out HP2.out HM2.out).mono ?_
                rintro e w6 ⟨rfl, h6, c6⟩
                have H3 := Lib.hid (HPL.out.step BW.out (ys := ys) (by rw [HE.out]; unfold ins put at *; simp only [List.map_append, List.map_cons, List.map_take, List.map_drop, map_eraseIdx']; simpa using h6) c6 HOF.out)
                clear h6 c6
                go_wp2
                go_roundw
                case rel => exact ⟨k + 1, by omega, by go_num, by rw [HF.out]; exact H3.out⟩
                case measure => simp [intOf]; omega
            · by_cases hem : E = M
              · have HE := Lib.hid (HSN.out (by omega) hem)
                subst hq hem
                go_wp2_with fail
                refine (moveBefore_same HLC.out HME.out).mono ?_
                rintro e w6 ⟨rfl, rfl⟩
                have H3 := Lib.hid (HPL.out.step BW.out (ys := ys) (by rw [HE.out]; exact HLC.out) (Chg.refl _ _) HOF.out)
                go_wp2
                go_roundw
                case rel => exact ⟨k + 1, by omega, by go_num, by rw [HF.out]; exact H3.out⟩
                case measure => simp [intOf]; omega
              · have HE := Lib.hid (HS3.out hq hem)
                have HM2 := Lib.hid (HMK.out hem)
                subst hq
                go_wp2_with fail
                refine (moveBefore_lc HLC.out HP1.out HP2.out HM2.out).mono ?_
                rintro e w6 ⟨rfl, h6, c6⟩
                have H3 := Lib.hid (HPL.out.step BW.out (ys := ys) (by rw [HE.out]; unfold ins put at *; simp only [List.map_append, List.map_cons, List.map_take, List.map_drop, map_eraseIdx']; simpa using h6) c6 HOF.out)
                clear h6 c6
                go_wp2
                go_roundw
                case rel => exact ⟨k + 1, by omega, by go_num, by rw [HF.out]; exact H3.out⟩
                case measure => simp [intOf]; omega
        · obtain rfl : k = ms.length := by omega
          rw [List.take_length] at HPL
          go_wp2_with fail
          refine (values_lc _ HPL.out.lc (by rw [HPL.out.ord.len]; omega)).mono ?_
          rintro e w5 ⟨v5, rfl, o5, b5⟩
          have O5 := Lib.hid (own_base o5 HPL.out.bl.size)
          have B5 := Lib.hid (bl_trans HPL.out.bl b5)
          have HPP : Hid (playOf a ms = ms.foldl (playStep j) (nums j)) := by
            show _ = _
            rw [HP.out]
            unfold play
            by_cases h0 : j = 0
            · rw [if_pos h0]
              have := HPL.out.ord.len
              rw [h0] at this
              subst h0
              exact (List.eq_nil_of_length_eq_zero this).symm
            · rw [if_neg h0]
          clear o5 b5
          go_wp2
          go_ret
          exact ⟨_, rfl, by rw [HPP.out]; exact O5.out, B5.out⟩

end Go.Proofs.Ythgghafndabpfaa
