/- The walk of GatherRing over lists in a ring. -/
import Derived.Test.YtgjackalcajmjaaGatherList
import Derived.Test.YtgjackalcajmjaaDealRing
import Derived.Test.YtgjackalcajmjaaRingCut
import Derived.Test.YtgjackalcajmjaaRingJoin
import Derived.Test.YtgjackalcajmjaaTurnPure
namespace Go.Proofs.Ytgjackalcajmjaa
open Go.RowKit

theorem HandsL.tail {w wr : World} {t : LT} {L : List LT} (h : HandsL w wr (t :: L)) : HandsL w wr L :=
  ⟨fun a ha => h.lc a (by simp [ha]), fun i j a b hij hi hj => h.dis (i + 1) (j + 1) a b (by omega) hi hj, fun a ha => h.ge a (by simp [ha])⟩
theorem HandsL.turn {w wr : World} {t : LT} {L : List LT} (h : HandsL w wr (t :: L)) : HandsL w wr (L ++ [t]) := by
  have hm : ∀ x, x ∈ L ++ [t] → x ∈ t :: L := fun x hx => by
    rcases List.mem_append.1 hx with h | h
    · simp [h]
    · simp at h; simp [h]
  refine ⟨fun a ha => h.lc a (hm a ha), fun i j a b hij hi hj => ?_, fun a ha => h.ge a (hm a ha)⟩
  have hjl := (List.getElem?_eq_some_iff.1 hj).1
  rw [List.length_append] at hjl
  simp only [List.length_cons, List.length_nil] at hjl
  rw [List.getElem?_append_left (by omega)] at hi
  rcases (by omega : j < L.length ∨ j = L.length) with h3 | h3
  · rw [List.getElem?_append_left h3] at hj
    exact h.dis (i + 1) (j + 1) a b (by omega) hi hj
  · subst h3
    rw [List.getElem?_append_right (Nat.le_refl _)] at hj
    simp at hj
    subst hj
    intro x hx hx'
    exact h.dis 0 (i + 1) t a (by omega) rfl hi x hx' hx

set_option maxHeartbeats 400000 in
theorem rlen_nil (w : World) : Calls Try.prog 40 #[.pointer none] w fun e w' => e = .returned (.int .i64 0) ∧ w = w' := by
  go_enter Try.func40, Try.ntmps40
  go_wp2
  go_ret
  exact ⟨rfl, rfl⟩

theorem DealR.addL {w wr w2 : World} {B H l : Nat} {es : List Nat} {xs : List Int} {L : List LT} (h : DealR w wr B H L) (hj : L.length < H) (hl : LC w2 l es (xs.map I)) (hge : ∀ b ∈ l :: es, wr.heap.size ≤ b) (hb : Bl wr w2) : DealR w (w2.setCell ⟨B + L.length, 2, none⟩ (IL l)) B H (L ++ [(l, es, xs)]) := by
  have hm := h.hands.more hb hl hge h.bl.size
  have hr2 := h.ring.bl hb
  obtain ⟨h1, h2⟩ := hr2.setVal (i := L.length) hj (IL l)
  have hchg : Chg (fun k => k = B + L.length) w2 (w2.setCell ⟨B + L.length, 2, none⟩ (IL l)) := Chg.setCell (S := fun k => k = B + L.length) (Chg.refl _ _) (p := ⟨B + L.length, 2, none⟩) rfl _
  refine ⟨hm.chg hchg (fun t ht x hx e => ?_), ?_, fun i hi => h2 _ ?_, h.ge, bl_set (bl_trans h.bl hb) (p := ⟨B + L.length, 2, none⟩) (Nat.le_trans h.ge (Nat.le_add_right _ _)) _⟩
  · exact (hm.lc t ht).ne_ring hr2 x hx ⟨L.length, hj, e⟩
  · refine ⟨fun i hi => ?_, h1.inj, h1.nxD, h1.pvD, h1.pn, h1.np⟩
    have h3 := h1.node i hi
    have e : (if i = L.length then IL l else match L[i]? with | some x => IL x.1 | none => Value.nilIface) = match (L ++ [(l, es, xs)])[i]? with | some x => IL x.1 | none => Value.nilIface := by
      by_cases h4 : i = L.length
      · subst h4
        rw [if_pos rfl, List.getElem?_append_right (Nat.le_refl _), Nat.sub_self]; rfl
      · rw [if_neg h4]
        by_cases h5 : i < L.length
        · rw [List.getElem?_append_left h5]
        · rw [List.getElem?_eq_none (by omega), List.getElem?_eq_none (by simp; omega)]
    show Node _ (B + i) _ _ (match (L ++ [(l, es, xs)])[i]? with | some x => IL x.1 | none => Value.nilIface)
    rw [← e]
    exact h3
  · obtain ⟨n, p, v, e⟩ := h.init i hi
    exact ⟨n, p, v, (hb.block _ (lt_of_heap e)).trans e⟩

/-- The lists still in the ring, from the present element on. -/
structure GathR (w wr : World) (B n : Nat) (nx pv : Nat → Nat) (vl : Nat → Value) (Q : List (Nat × LT)) : Prop where
  ring : Ring wr (fun b => B ≤ b ∧ b < B + n) id nx pv vl
  hands : HandsL w wr (Q.map fun p => p.2)
  path : ∀ y q, Q = y :: q → Path nx y.1 (Q.map fun p => p.1) y.1
  nodup : (Q.map fun p => p.1).Nodup
  dom : ∀ p ∈ Q, B ≤ p.1 ∧ p.1 < B + n
  val : ∀ p ∈ Q, vl p.1 = IL p.2.1
  ge : w.heap.size ≤ B
  bl : Bl w wr
theorem GathR.kept {w wr w2 : World} {B n : Nat} {nx pv : Nat → Nat} {vl : Nat → Value} {Q : List (Nat × LT)} (h : GathR w wr B n nx pv vl Q) (hk : Kept wr (fun b => B ≤ b ∧ b < B + n) id nx pv vl w2) : GathR w w2 B n nx pv vl Q :=
  ⟨hk.ring, h.hands.chg hk.chg (fun t ht x hx => (h.hands.lc t ht).ne_ring h.ring x hx), h.path, h.nodup, h.dom, h.val, h.ge, bl_chg h.bl hk.chg (fun i hi => by have := ((At_id i).1 hi).1; have := h.ge; omega)⟩

theorem GathR.cut {w wr w2 : World} {B n y : Nat} {nx pv nx' pv' : Nat → Nat} {vl : Nat → Value} {t : LT} {z : Nat × LT} {Q : List (Nat × LT)} (h : GathR w wr B n nx pv vl ((y, t) :: z :: Q)) (hk : Kept wr (fun b => B ≤ b ∧ b < B + n) id nx' pv' vl w2) (hp : Path nx' z.1 (z.1 :: Q.map fun p => p.1) z.1) : GathR w w2 B n nx' pv' vl (z :: Q) :=
  ⟨hk.ring, (h.hands.tail).chg hk.chg (fun a ha x hx => (h.hands.tail.lc a ha).ne_ring h.ring x hx), fun y' q hq => by injection hq with h1 h2; subst h1 h2; exact hp, (List.nodup_cons.1 h.nodup).2, fun p hp' => h.dom p (by simp only [List.mem_cons] at hp' ⊢; exact .inr hp'), fun p hp' => h.val p (by simp only [List.mem_cons] at hp' ⊢; exact .inr hp'), h.ge, bl_chg h.bl hk.chg (fun i hi => by have := ((At_id i).1 hi).1; have := h.ge; omega)⟩
/-- The present list has changed, and the next one is the present one. -/
theorem GathR.turn {w wr w1 : World} {B n y : Nat} {nx pv : Nat → Nat} {vl : Nat → Value} {t t' : LT} {Q : List (Nat × LT)} (h : GathR w wr B n nx pv vl ((y, t) :: Q)) (hs : HandsL w w1 (t' :: Q.map fun p => p.2)) (hd : t'.1 = t.1) (hr : Ring w1 (fun b => B ≤ b ∧ b < B + n) id nx pv vl) (hb : Bl w w1) : GathR w w1 B n nx pv vl (Q ++ [(y, t')]) := by
  have hm : ∀ p, p ∈ Q ++ [(y, t')] → p ∈ (y, t) :: Q ∨ p = (y, t') := fun p hp => by
    rcases List.mem_append.1 hp with h | h
    · exact .inl (by simp [h])
    · exact .inr (by simpa using h)
  refine ⟨hr, by rw [List.map_append]; exact hs.turn, fun y' q hq => ?_, ?_, fun p hp => ?_, fun p hp => ?_, h.ge, hb⟩
  · have hp := h.path (y, t) Q rfl
    rw [List.map_append]
    have hp2 := hp.turn
    have e : nx y = y'.1 := by
      cases Q with
      | nil =>
        simp at hq
        have : nx y = y := hp.2
        rw [this, ← hq.1]
      | cons z Q =>
        injection hq with h1 _
        subst h1
        exact hp.2.1
    rw [e] at hp2
    exact hp2
  · have := h.nodup
    rw [List.map_cons, List.nodup_cons] at this
    rw [List.map_append, List.nodup_append]
    refine ⟨this.2, by simp, fun a ha b hb e => ?_⟩
    simp at hb
    subst hb
    subst e
    exact this.1 ha
  · rcases hm p hp with h1 | h1
    · exact h.dom p h1
    · subst h1; exact h.dom (y, t) (by simp)
  · rcases hm p hp with h1 | h1
    · exact h.val p h1
    · subst h1; rw [hd]; exact h.val (y, t) (by simp)

set_option maxHeartbeats 4000000 in
theorem GatherRing_some (v : Value) (rows : List (List Int)) (w : World) (hv : Rowss w v rows) (hl : sumLen rows ≤ 17592186043904) (hr : rows.length ≤ 17592186043904) (h0 : 0 < rows.length) :
    Calls Try.prog 15 #[v] w (NewInts w (gather rows)) := by
  obtain ⟨i0, hi, hz0, hz1, hz2⟩ := info_parts intInfo
  obtain ⟨A, c, rfl, hc, hm, hv⟩ := hv.open
  have HV := Lib.hid hv
  clear hv
  unfold maxLen at hm
  have HGL := Lib.hid (gather_sum rows)
  go_enter Try.func15, Try.ntmps15
  go_wp2_with fail
  refine (new_some rows.length h0 (by omega) _).mono ?_
  rintro e w1 ⟨rfl, h1⟩
  have HDR : Hid (DealR w w1 w.heap.size rows.length []) := ⟨⟨fun t ht => (by cases ht), fun i j a b _ hi => by simp at hi, fun t ht => (by cases ht)⟩, h1.ring, h1.inited, Nat.le_refl _, h1.bl⟩
  clear h1
  generalize hB : w.heap.size = B at *
  have HB := Lib.hid hB
  clear hB
  go_wp2
  go_loopw [3, 5, 13] (fun r _ i wr => ∃ j : Nat, j ≤ rows.length ∧ i = .int .i64 j ∧ r = P (B + (if j < rows.length then j else 0)) ∧ ∃ L, DealR w wr B rows.length L ∧ L.length = j ∧ L.map (fun x => x.2.2) = rows.take j) (fun _ _ i _ => rows.length - (intOf i).toNat)
  case atStart => exact ⟨0, Nat.zero_le _, rfl, by rw [if_pos h0]; rfl, [], HDR.out, rfl, rfl⟩
  case round =>
    obtain ⟨j, hj, rfl, rfl, L, hdr, hLj, hLe⟩ := hrel
    clear HDR
    have HDR := Lib.hid hdr
    have HLJ := Lib.hid hLj
    have HLE := Lib.hid hLe
    clear hdr hLj hLe
    by_cases hlt : j < rows.length
    · obtain ⟨b, off, u, rfl, hc1, hu⟩ := HV.out j hlt
      have r1 := (HDR.out.bl.cell (World.block_lt_of_cell? _ _ hc1)).trans hc1
      have HU := Lib.hid (hu.bl HDR.out.bl)
      obtain ⟨nu, A2, c2, hu2⟩ := ints_val hu
      subst hu2
      have HT := Lib.hid (List.take_succ_eq_append_getElem hlt)
      have hrk : rows[j].length ≤ sumLen rows := le_sum (List.mem_map.2 ⟨_, List.getElem_mem hlt, rfl⟩)
      clear hc1 hu
      generalize rows[j] = row at *
      rw [if_pos hlt]
      go_wp2_with fail
      refine (listOf_any _ row _ HU.out (by omega)).mono ?_
      rintro e w2 ⟨l2, es2, rfl, h2, g2, b2⟩
      obtain ⟨a1, a2, hh', _⟩ := (HDR.out.ring.bl b2).node j hlt
      have c2' : w2.cell? ⟨B + j, 2, none⟩ = some _ := cell_of_heap hh'
      have f2 : w2.frozen? ⟨B + j, 2, none⟩ = false := frozen_of_heap hh'
      have hadd := HDR.out.addL (by rw [HLJ.out]; exact hlt) h2 g2 b2
      rw [HLJ.out] at hadd
      have HADD := Lib.hid hadd
      clear hadd hh' h2 g2 b2
      simp at c2'
      go_wp2_with fail
      refine (next_ring HADD.out.ring (i := j) hlt).mono ?_
      rintro e w3 ⟨rfl, k3, _⟩
      have H3 := Lib.hid (HADD.out.kept k3)
      clear k3 c2' f2
      go_wp2
      go_roundw
      case rel => exact ⟨j + 1, by omega, by go_num, by unfold nxc; rfl, _, H3.out, by rw [List.length_append, HLJ.out]; rfl, by rw [List.map_append, HLE.out, HT.out]; rfl⟩
      case measure => simp [intOf]; omega
    · obtain rfl : j = rows.length := by omega
      rw [if_neg (by omega), Nat.add_zero]
      rw [List.take_length] at HLE
      -- from now on by blocks
      have hq0 : ∃ vl, GathR w wr B rows.length (fun b => B + nxc rows.length (b - B)) (fun b => B + pvc rows.length (b - B)) vl (((List.range rows.length).map (B + ·)).zip L) := by
        have hlz : ((List.range rows.length).map (B + ·)).length = L.length := by simp [HLJ.out]
        have hm1 : (((List.range rows.length).map (B + ·)).zip L).map (fun p => p.1) = (List.range rows.length).map (B + ·) := by
          have := List.map_fst_zip (l₁ := (List.range rows.length).map (B + ·)) (l₂ := L) (by omega)
          exact this
        have hm2 : (((List.range rows.length).map (B + ·)).zip L).map (fun p => p.2) = L := by
          have := List.map_snd_zip (l₁ := (List.range rows.length).map (B + ·)) (l₂ := L) (by omega)
          exact this
        refine ⟨_, HDR.out.ring.toId, by rw [hm2]; exact HDR.out.hands, fun y q hq => ?_, by rw [hm1]; exact List.pairwise_map.2 (List.nodup_range.imp (fun h e => h (by omega))), fun p hp => ?_, fun p hp => ?_, HDR.out.ge, HDR.out.bl⟩
        · rw [hm1]
          have hy : y.1 = B := by
            have h1 := congrArg (List.map fun p => p.1) hq
            rw [hm1] at h1
            obtain ⟨m, hm'⟩ : ∃ m, rows.length = m + 1 := ⟨rows.length - 1, by omega⟩
            rw [hm', List.range_succ_eq_map] at h1
            simp at h1
            exact h1.1.symm
          rw [hy]
          have := (path_nxc rows.length h0).shift (B := B)
          rw [Nat.add_zero] at this
          exact this
        · have := List.of_mem_zip hp
          obtain ⟨x, hx, e⟩ := List.mem_map.1 this.1
          have := List.mem_range.1 hx
          omega
        · obtain ⟨i, hi', e⟩ := List.getElem_of_mem hp
          have hil : i < L.length := by simp at hi'; omega
          rw [List.getElem_zip] at e
          have e1 : p.1 = B + i := by rw [← e]; simp
          have e2 : p.2 = L[i] := by rw [← e]
          rw [e1, e2]
          simp only [show B + i - B = i by omega]
          rw [List.getElem?_eq_getElem hil]
      obtain ⟨vl, hq⟩ := hq0
      have hqv : ((((List.range rows.length).map (B + ·)).zip L).map fun p => p.2.2.2) = rows := by
        have hm2 : (((List.range rows.length).map (B + ·)).zip L).map (fun p => p.2) = L := List.map_snd_zip (by simp [HLJ.out])
        have := congrArg (List.map fun x : LT => x.2.2) hm2
        rw [List.map_map, HLE.out] at this
        exact this
      have hqh : ∃ q, ((List.range rows.length).map (B + ·)).zip L = (B, q) :: (((List.range rows.length).map (B + ·)).zip L).tail := by
        obtain ⟨m, hm'⟩ : ∃ m, rows.length = m + 1 := ⟨rows.length - 1, by omega⟩
        have hLm := HLJ.out
        rw [hm'] at hLm ⊢
        cases L with
        | nil => simp at hLm
        | cons t L => rw [List.range_succ_eq_map]; exact ⟨t, rfl⟩
      have HQ := Lib.hid hq
      have HQV := Lib.hid hqv
      have HQH := Lib.hid hqh
      have hql : (((List.range rows.length).map (B + ·)).zip L).length = rows.length := by simp [HLJ.out]
      have HQL := Lib.hid hql
      clear hql
      clear hq hqv hqh HDR HLE HLJ
      generalize ((List.range rows.length).map (B + ·)).zip L = Q at *
      obtain ⟨q0, hq0⟩ := HQH.out
      generalize Q.tail = Q0 at *
      subst hq0
      clear HQH
      obtain ⟨M, hM⟩ : ∃ M, M = rows.length + sumLen rows := ⟨_, rfl⟩
      have HMM := Lib.hid hM
      clear hM
      rw [List.length_cons] at HQL
      obtain ⟨n, hnn⟩ : ∃ n, rows.length = n := ⟨_, rfl⟩
      rw [hnn] at HQ HQL HMM hr hc
      clear HV
      go_wp2
      clear hnn
      go_loopg [3, 6, 7] (Q0.length + 1 + sumLen (((B, q0) :: Q0).map fun p => p.2.2.2)) (fun g r ov _ wr => ∃ (y : Nat) (t : LT) (Q : List (Nat × LT)) (ys : List Int) (nx pv : Nat → Nat), Q.length + 1 + sumLen (((y, t) :: Q).map fun p => p.2.2.2) = g ∧ g ≤ M ∧ r = P y ∧ GathR w wr B n nx pv vl ((y, t) :: Q) ∧ OwnI wr w.heap.size ov ys ∧ gather rows = ys ++ gather (((y, t) :: Q).map fun p => p.2.2.2))
      case atStart =>
        have hb := bl_alloc (bl_refl wr) (.cells #[] 3)
        refine ⟨B, q0, Q0, [], _, _, rfl, ?_, rfl, ⟨HQ.out.ring.bl hb, HQ.out.hands.bl hb, HQ.out.path, HQ.out.nodup, HQ.out.dom, HQ.out.val, HQ.out.ge, bl_trans HQ.out.bl hb⟩, own_base (own_empty _ _ _) HQ.out.bl.size, by rw [HQV.out]; rfl⟩
        have h1 := HQL.out
        rw [HQV.out, HMM.out]
        omega
      case round =>
        clear HQ HQV HQL
        obtain ⟨y, t, Q, ys, nx, pv, hg, hgM, rfl, hst, hown, hga⟩ := hrel
        obtain ⟨l, es, zs⟩ := t
        have HG := Lib.hid hg
        have HGM := Lib.hid hgM
        have HST := Lib.hid hst
        have HO := Lib.hid hown
        have HGA := Lib.hid hga
        clear hg hgM hst hown hga
        have hQb : Q.length ≤ 1000000000000000 := by
          have h1 := HG.out
          have h2 := HGM.out
          have h3 := HMM.out
          omega
        have HP : Hid (Path nx y (y :: Q.map fun p => p.1) y) := HST.out.path _ _ rfl
        have HND : Hid ((y :: Q.map fun p => p.1).Nodup) := HST.out.nodup
        have HDM : Hid (∀ x ∈ y :: Q.map (fun p => p.1), B ≤ x ∧ x < B + n) := fun x hx => by
          rcases List.mem_cons.1 hx with h | h
          · subst h; exact HST.out.dom (x, (l, es, zs)) (by simp)
          · obtain ⟨p, hp, e⟩ := List.mem_map.1 h
            rw [← e]; exact HST.out.dom p (by simp [hp])
        have hDy := HDM.out y (by simp)
        have HLEN : Hid (∀ ws : World, GathR w ws B n nx pv vl ((y, (l, es, zs)) :: Q) → Calls Try.prog 40 #[P y] ws fun e w' => e = .returned (.int .i64 (Q.length + 1)) ∧ Kept ws (fun b => B ≤ b ∧ b < B + n) id nx pv vl w') := fun ws hws => by
          have := len_ring hws.ring (r := y) hDy (Q.map fun p => p.1) HP.out (List.nodup_cons.1 HND.out).1 (fun x hx => HDM.out x (by simp only [List.mem_cons]; exact .inr hx)) (by rw [List.length_map]; omega)
          rw [List.length_map] at this
          exact this
        have hlpos : (0 : Int) < (Q.length : Int) + 1 := by omega
        go_wp2_with fail
        refine (HLEN.out _ HST.out).mono ?_
        rintro e w4 ⟨rfl, k4⟩
        have HST4 := Lib.hid (HST.out.kept k4)
        have O4 := Lib.hid (k4.own HST.out.ring HO.out (by decide))
        clear k4 HO
        have c2 := HST4.out.ring.cell2_id hDy
        rw [HST4.out.val (y, (l, es, zs)) (by simp)] at c2
        simp only at c2
        have hta2 := run_assert_list l
        have HHL : Hid (LC w4 l es (zs.map I)) := HST4.out.hands.lc (l, es, zs) (by simp)
        have hez : es.length = zs.length := by rw [HHL.out.len_eq]; simp
        have HEZ := Lib.hid hez
        clear hez
        go_wp2_with fail
        refine (llen_lc HHL.out).mono ?_
        rintro e w5 ⟨rfl, rfl⟩
        rw [HEZ.out]
        clear c2
        cases zs with
        | nil =>
          simp only [List.length_nil]
          go_wp2_with fail
          refine (HLEN.out _ HST4.out).mono ?_
          rintro e w6 ⟨rfl, k6⟩
          have HST6 := Lib.hid (HST4.out.kept k6)
          have O6 := Lib.hid (k6.own HST4.out.ring O4.out (by decide))
          clear k6
          cases Q with
          | nil =>
            have HGE : Hid (gather rows = ys) := by
              show _ = _
              have h1 := HGA.out
              rw [h1]
              show ys ++ gather [[]] = ys
              rw [gather_skip, gather_empty, List.append_nil]
            simp only [List.length_nil]
            go_wp2
            go_ret
            exact ⟨_, rfl, by rw [HGE.out]; exact O6.out, HST6.out.bl⟩
          | cons z Q =>
            have hne1 : ((((z :: Q).length : Nat) : Int) + 1 == 1) = false := by rw [beq_eq_false_iff_ne, List.length_cons]; omega
            obtain ⟨q1, q2, q3, q4, _⟩ := Path.cutHead HST6.out.ring HP.out HND.out HDM.out
            have Q1 := Lib.hid q1
            have Q2 := Lib.hid q2
            have Q3 := Lib.hid q3
            have Q4 := Lib.hid q4
            clear q1 q2 q3 q4
            generalize hlz : (((z :: Q).length : Nat) : Int) + 1 = lz at *
            clear hlz
            go_wp2_with fail
            refine (prev_id HST6.out.ring hDy).mono ?_
            rintro e w9 ⟨rfl, k9, _⟩
            have K9 := Lib.hid k9
            clear k9
            have hdp := HDM.out _ (List.mem_cons_of_mem _ Q4.out)
            have HU := Lib.hid (unlink_ring K9.out.ring hdp 1 (by omega) (by omega))
            go_wp2_with fail
            refine HU.out.mono ?_
            rintro e w10 ⟨rfl, k10, _⟩
            have e2 : iter nx (1 + 1) (pv y) = z.1 := Q1.out
            rw [e2] at k10
            have K10 := Lib.hid (K9.out.after k10)
            clear k10 e2 HU
            go_wp2_with fail
            refine (next_id K10.out.ring hdp).mono ?_
            rintro e w11 ⟨rfl, k11, _⟩
            rw [Q3.out]
            have K11 := Lib.hid (K10.out.after k11)
            have O11 := Lib.hid (K11.out.own HST6.out.ring O6.out (by decide))
            have HST11 := Lib.hid (HST6.out.cut K11.out Q2.out)
            clear k11
            go_wp2
            go_roundg (Q.length + 1 + sumLen ((z :: Q).map fun p => p.2.2.2))
            case rel =>
              refine ⟨z.1, z.2, Q, ys, _, _, rfl, ?_, rfl, HST11.out, O11.out, ?_⟩
              · have h1 := HG.out
                have h2 := HGM.out
                simp only [List.length_cons, List.map_cons] at h1 ⊢
                unfold sumLen at *
                simp only [List.map_cons, List.sum_cons, List.length_nil] at h1 ⊢
                omega
              · have h1 := HGA.out
                rw [List.map_cons, gather_skip] at h1
                exact h1
            case measure =>
              have h1 := HG.out
              simp only [List.length_cons, List.map_cons] at h1 ⊢
              unfold sumLen at *
              simp only [List.map_cons, List.sum_cons, List.length_nil] at h1 ⊢
              omega
        | cons zz zs =>
          obtain ⟨f, es, rfl⟩ : ∃ f es', es = f :: es' := by
            cases es with
            | nil => exact absurd HEZ.out (by simp)
            | cons f es => exact ⟨f, es, rfl⟩
          have hz0' : ((((zz :: zs).length : Nat) : Int) == 0) = false := by rw [beq_eq_false_iff_ne, List.length_cons]; omega
          have hesl : (f :: es).length ≤ 4611686018427387904 := by
            have h1 := HG.out
            have h2 := HGM.out
            have h3 := HMM.out
            have h4 := HEZ.out
            simp only [List.length_cons, List.map_cons] at h1 h4 ⊢
            unfold sumLen at *
            simp only [List.map_cons, List.sum_cons, List.length_cons] at h1
            omega
          have hta := run_assert_int zz
          have HYL : Hid (ys.length + 1 ≤ 17592186043904) := by
            show _ ≤ _
            have h1 := congrArg List.length HGA.out
            rw [HGL.out, List.length_append, gather_sum, List.map_cons] at h1
            unfold sumLen at *
            simp only [List.map_cons, List.sum_cons, List.length_cons] at h1
            omega
          generalize hzz : (zz :: zs).length = zl at *
          clear hzz
          go_wp2_with fail
          refine (front_some HHL.out (by simp)).mono ?_
          rintro e w6 ⟨rfl, rfl⟩
          simp only [List.getElem_cons_zero]
          go_wp2_with fail
          refine (lremove_lc HHL.out hesl (i := 0) rfl rfl).mono ?_
          rintro e w7 ⟨rfl, h7, c7⟩
          have H7 : Hid (LC w7 l es (zs.map I)) := h7
          have O7 := Lib.hid (HHL.out.own c7 O4.out (by decide) (by decide))
          have HS7 : Hid (HandsL w w7 ((l, es, zs) :: Q.map fun p => p.2)) := HST4.out.hands.set (j := 0) (t := (l, f :: es, zz :: zs)) (t' := (l, es, zs)) rfl h7 c7 (fun x hx => by
            refine .inl ?_
            simp only [LT.blk, List.mem_cons] at hx ⊢
            rcases hx with h | h
            · exact .inl h
            · exact .inr (.inr h)) HST4.out.bl.size
          have R7 := Lib.hid (HST4.out.ring.chg c7 (fun i hi hx => HHL.out.ne_ring HST4.out.ring _ hx ⟨i, hi, rfl⟩))
          have B7 := Lib.hid (bl_chg HST4.out.bl c7 (fun i hi => HST4.out.hands.ge (l, f :: es, zz :: zs) (by simp) i hi))
          clear h7 c7
          have hys : ys.length + 1 ≤ 17592186043904 := HYL.out
          go_wp2_with (at_builtin; go_must (refine wpList_push w7 rfl (.tmp 47) (.tmp 53) _ rfl w.heap.size 3 i0 _ 8 Try.underlying22 hi hz0 hz1 hz2 rfl u6 _ _ rfl O7.out (.int .i64 zz) rfl rfl rfl (by omega) (by omega) B7.out.size ?_); intro v8 w8 hown8 hchg8 hloc8)
          have O8 := Lib.hid (OwnI.snoc hown8)
          have HS8 := Lib.hid (HS7.out.chg hchg8 (HS7.out.ne_own O7.out (by decide) (by decide)))
          have R8 := Lib.hid (R7.out.chg hchg8 (R7.out.ne_own O7.out (by decide)))
          have B8 := Lib.hid (bl_own B7.out O7.out hchg8)
          clear hown8 hchg8 hloc8
          have HT8 := Lib.hid (HST4.out.turn (t' := (l, es, zs)) HS8.out rfl R8.out B8.out)
          refine (next_id R8.out hDy).mono ?_
          rintro e w9 ⟨rfl, k9, _⟩
          have HT9 := Lib.hid (HT8.out.kept k9)
          have O9 := Lib.hid (k9.own R8.out O8.out (by decide))
          have HNX : Hid (∃ y2 t2 Q2, Q ++ [(y, (l, es, zs))] = (y2, t2) :: Q2 ∧ nx y = y2 ∧ Q2.length = Q.length) := by
            cases Q with
            | nil => exact ⟨y, (l, es, zs), [], rfl, HP.out.2, rfl⟩
            | cons z Q => exact ⟨z.1, z.2, Q ++ [(y, (l, es, zs))], rfl, HP.out.2.1, by simp⟩
          obtain ⟨y2, t2, Q2', hq2, hn2, hl2⟩ := HNX.out
          have HQ2 := Lib.hid hq2
          have HL2 := Lib.hid hl2
          rw [hn2]
          rw [hq2] at HT9
          clear hq2 hl2 hn2 HNX k9
          have HSUM : Hid (sumLen (((y2, t2) :: Q2').map fun p => p.2.2.2) = sumLen (Q.map fun p => p.2.2.2) + zs.length) := by
            show _ = _
            rw [← HQ2.out, List.map_append]
            unfold sumLen
            rw [List.map_append, List.sum_append]
            simp
          have HGA2 : Hid (gather rows = (ys ++ [zz]) ++ gather (((y2, t2) :: Q2').map fun p => p.2.2.2)) := by
            show _ = _
            have h1 := HGA.out
            rw [List.map_cons, gather_front] at h1
            rw [h1, ← HQ2.out, List.map_append, List.append_assoc]
            rfl
          go_wp2
          go_roundg (Q2'.length + 1 + sumLen (((y2, t2) :: Q2').map fun p => p.2.2.2))
          case rel =>
            refine ⟨y2, t2, Q2', ys ++ [zz], _, _, rfl, ?_, rfl, HT9.out, O9.out, HGA2.out⟩
            have h1 := HG.out
            have h2 := HGM.out
            have h3 := HSUM.out
            have h4 := HL2.out
            rw [h3, h4]
            simp only [List.map_cons] at h1
            unfold sumLen at *
            simp only [List.map_cons, List.sum_cons, List.length_cons] at h1
            omega
          case measure =>
            have h1 := HG.out
            have h3 := HSUM.out
            have h4 := HL2.out
            rw [h3, h4]
            simp only [List.map_cons] at h1
            unfold sumLen at *
            simp only [List.map_cons, List.sum_cons, List.length_cons] at h1
            omega

set_option maxHeartbeats 1000000 in
theorem GatherRing_none (v : Value) (w : World) (hv : Rowss w v []) : Calls Try.prog 15 #[v] w (NewInts w (gather [])) := by
  obtain ⟨A, c, rfl, hc, hm, _⟩ := hv.open
  simp only [List.length_nil] at *
  go_enter Try.func15, Try.ntmps15
  go_wp2_with fail
  refine (new_none 0 (by omega) _).mono ?_
  rintro e w1 ⟨rfl, rfl⟩
  go_wp2
  refine wp_loop_rounds 1 ?_
  rw [rounds_succ]
  go_wp2
  refine wp_loop_rounds 1 ?_
  rw [rounds_succ]
  go_wp2_with fail
  refine (rlen_nil _).mono ?_
  rintro e w2 ⟨rfl, rfl⟩
  go_wp2
  go_ret
  exact ⟨_, rfl, own_empty _ _ _, bl_alloc (bl_refl _) _⟩

theorem GatherRing_impl (v : Value) (rows : List (List Int)) (w : World) (hv : Rowss w v rows) (hl : sumLen rows ≤ 17592186043904) (hr : rows.length ≤ 17592186043904) :
    Calls Try.prog 15 #[v] w (NewInts w (gather rows)) := by
  rcases Nat.eq_zero_or_pos rows.length with h | h
  · obtain rfl : rows = [] := List.eq_nil_of_length_eq_zero h
    exact GatherRing_none v w hv
  · exact GatherRing_some v rows w hv hl hr h

end Go.Proofs.Ytgjackalcajmjaa
