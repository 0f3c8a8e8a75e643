/- The walk of SpliceRing over a ring. -/
import Derived.Test.YtebkmegkdcnfaaaSplicePure
import Derived.Test.YtebkmegkdcnfaaaTurn
import Derived.Test.YtebkmegkdcnfaaaRingCut
namespace Go.Proofs.Ytebkmegkdcnfaaa
open Go.RowKit

/-- Elements behind one are taken out of a ring: what is left, and what was taken. -/
theorem path_unlinkK {nx pv : Nat → Nat} {q : Nat} {A : List Nat} (hp : Path nx q (q :: A) q) (hnd : (q :: A).Nodup) (pn : ∀ x ∈ q :: A, pv (nx x) = x) {K : Nat} (h0 : 0 < K) (hK : K ≤ A.length) :
    Path (lnx nx pv q (iter nx (K + 1) q)) q (q :: A.drop K) q ∧ Path (lnx nx pv q (iter nx (K + 1) q)) (nx q) (A.take K) (nx q) ∧ nx q ∈ A := by
  have hl : (q :: A).length = A.length + 1 := by simp
  have hit := iter_path hp (by simp) (K + 1)
  obtain ⟨C, p, hC⟩ : ∃ C p, A.take K = C ++ [p] := by
    have hne : A.take K ≠ [] := fun e => by have := congrArg List.length e; rw [List.length_take, List.length_nil] at this; omega
    exact ⟨(A.take K).dropLast, (A.take K).getLast hne, (List.dropLast_concat_getLast hne).symm⟩
  have hA : A = C ++ [p] ++ A.drop K := by rw [← hC, List.take_append_drop]
  have hnq : nx q ∈ A := by
    have hA0 : 0 < A.length := by omega
    have h1 := hp.get_succ 0 (by simp; exact hA0)
    have h2 : nx q = A[0] := h1
    rw [h2]; exact List.getElem_mem _
  have hpm : p ∈ q :: A := by rw [hA]; simp
  cases hD : A.drop K with
  | nil =>
    have hKA : K = A.length := by have := congrArg List.length hD; rw [List.length_drop] at this; simp at this; omega
    have hs : iter nx (K + 1) q = q := by
      rw [hit]
      have : (K + 1) % (q :: A).length = 0 := by rw [hl, hKA, Nat.mod_self]
      simp only [this]; rfl
    rw [hD, List.append_nil] at hA
    rw [hA] at hp hnd
    have hlast : nx p = q := by
      have h1 : Path nx q ((q :: C) ++ [p]) q := hp
      exact h1.last
    have hpv : pv q = p := by rw [← hlast]; exact pn p hpm
    have hqp : q ≠ p := fun e => (List.nodup_cons.1 hnd).1 (by simp [e])
    have hqC : q ∉ C ++ [p] := (List.nodup_cons.1 hnd).1
    have hpC : p ∉ C := by
      have := (List.nodup_cons.1 hnd).2
      rw [List.nodup_append] at this
      exact fun h => this.2.2 p h p (by simp) rfl
    rw [hs]
    unfold lnx
    rw [hpv, hC]
    refine ⟨⟨rfl, ?_⟩, ?_, hnq⟩
    · rw [upd_other _ _ hqp, upd_same]; rfl
    · have h2 : Path nx (nx q) (C ++ [p]) q := hp.2
      exact (h2.upd_far hqC q).upd_last hpC (nx q)
  | cons s B =>
    have hKA : K < A.length := by have := congrArg List.length hD; rw [List.length_drop] at this; simp at this; omega
    have hsA : A[K] = s := by
      have := List.drop_eq_getElem_cons hKA
      rw [hD] at this
      injection this with h1 _
      exact h1.symm
    have hs : iter nx (K + 1) q = s := by
      rw [hit]
      have : (K + 1) % (q :: A).length = K + 1 := Nat.mod_eq_of_lt (by rw [hl]; omega)
      simp only [this, List.getElem_cons_succ]
      exact hsA
    rw [hD] at hA
    have hp' : Path nx q (q :: (C ++ [p]) ++ s :: B) q := by rw [hA] at hp; exact hp
    have hnd' : (q :: (C ++ [p]) ++ s :: B).Nodup := by rw [hA] at hnd; exact hnd
    have hps : nx p = s := by
      have h1 : Path nx q ((q :: C) ++ p :: s :: B) q := by simpa using hp'
      obtain ⟨c, _, h2⟩ := Path.append_iff.1 h1
      exact h2.2.1
    have hpv : pv s = p := by rw [← hps]; exact pn p hpm
    obtain ⟨r1, r2⟩ := hp'.unlink hnd'
    rw [hs]
    unfold lnx
    rw [hpv, hC]
    exact ⟨r1, r2, hnq⟩

set_option maxRecDepth 100000 in
set_option maxHeartbeats 400000 in
/-- Unlink: the elements behind r, n of them, are out. -/
theorem unlink_far {w : World} {D : Nat → Prop} {ad nx pv : Nat → Nat} {val : Nat → Value} (hr : Ring w D ad nx pv val) {r : Nat} (hd : D r) (n : Nat) (h0 : 0 < n) (hn : n ≤ 1152921504606846976) :
    Calls Try.prog 66 #[P (ad r), .int .i64 n] w fun e w' => e = .returned (P (ad (nx r))) ∧ Kept w D ad (lnx nx pv r (iter nx (n + 1) r)) (lpv nx pv r (iter nx (n + 1) r)) val w' ∧ Inited w' (ad r) := by
  have HR := Lib.hid hr
  clear hr
  go_enter Try.func66, Try.ntmps66
  go_wp2_with fail
  have e : (n : Int) + 1 = ((n + 1 : Nat) : Int) := by omega
  rw [e]
  clear e
  refine (move_fwd HR.out hd (n + 1) (by omega)).mono ?_
  rintro e w1 ⟨rfl, k1, i1⟩
  have K1 := Lib.hid k1
  clear k1 i1
  go_wp2_with fail
  refine (link_ring K1.out.ring hd (iterD K1.out.ring.nxD hd (n + 1))).mono ?_
  rintro e w2 ⟨rfl, k2, i2, _⟩
  have K2 := Lib.hid (K1.out.after k2)
  have I2 := Lib.hid i2
  clear k2 i2
  go_wp2
  go_ret
  exact ⟨rfl, K2.out, I2.out⟩

set_option maxRecDepth 100000 in
set_option maxHeartbeats 2000000 in
theorem SpliceRing_impl (v : Value) (xs : List Int) (i k : Int) (w : World) (hv : Ints w v xs) (hl : xs.length ≤ 17592186043904) :
    Calls Try.prog 32 #[v, .int .i64 i, .int .i64 k] w (New2 w (leftOf xs i k) (takenOf xs i k)) := by
  have HV := Lib.hid hv
  rcases Nat.eq_zero_or_pos xs.length with h0 | h0
  · obtain rfl : xs = [] := List.eq_nil_of_length_eq_zero h0
    clear hv
    go_enter Try.func32, Try.ntmps32
    go_wp2_with fail
    refine (ringOf_none v _ HV.out).mono ?_
    rintro e w1 ⟨rfl, rfl⟩
    go_wp2
    go_ret2
    refine ⟨_, _, rfl, ?_, ?_, ?_, bl_alloc (bl_alloc (bl_refl _) _) _⟩
    · rw [leftOf_nil]; exact (own_empty w 3 1).alloc _
    · rw [takenOf_nil]
      have := own_empty (w.alloc (.cells #[] 3)) 3 1
      rw [World.size_alloc] at this
      exact own_base this (by omega)
    · intro g hg hg'
      simp [Value.ownBlock] at hg hg'
      omega
  · obtain ⟨A0, c0, hvv, hc0, hm0, _⟩ := hv.open
    subst hvv
    unfold maxLen at hm0
    clear hv
    have hfb := farOf_bd i
    have hk := ix_lt (farOf i) h0
    have hK := ix_lt k h0
    have HLE : Hid (leftOf xs i k = spLeft (rot xs (ix (farOf i) xs.length)) (ix k xs.length)) := rfl
    have HTA : Hid (takenOf xs i k = spTaken (rot xs (ix (farOf i) xs.length)) (ix k xs.length)) := rfl
    go_enter Try.func32, Try.ntmps32
    go_wp2_with fail
    refine (ringOf_some _ xs _ HV.out h0 (by omega)).mono ?_
    rintro e w1 ⟨rfl, r1⟩
    have R1 := Lib.hid r1
    clear r1
    go_wp2_with fail
    refine (far_any i _).mono ?_
    rintro e w2 ⟨rfl, rfl⟩
    go_wp2_with fail
    refine (move_ix R1.out.ring h0 h0 (farOf i) (by omega)).mono ?_
    rintro e w2 ⟨rfl, k2, _⟩
    rw [show ((0 : Nat) : Int) + farOf i = farOf i by omega]
    have K2 := Lib.hid k2
    clear k2
    have hge : ∀ i, At (· < xs.length) (w.heap.size + ·) i → w.heap.size ≤ i := by rintro i ⟨j, _, e⟩; subst e; exact Nat.le_add_right _ _
    have HGE := Lib.hid hge
    have B2 := Lib.hid (bl_chg R1.out.bl K2.out.chg hge)
    clear hge R1
    obtain ⟨p1, p2⟩ := path_rot xs.length (ix (farOf i) xs.length) hk
    have hnd := nodup_rot (List.nodup_range (n := xs.length)) (ix (farOf i) xs.length)
    have hmem := rot_mem xs.length (ix (farOf i) xs.length)
    have hval : (rot (List.range xs.length) (ix (farOf i) xs.length)).map (fun j => xs.getD j 0) = rot xs (ix (farOf i) xs.length) := by rw [rot_map, range_get]
    rw [← p2] at hnd hmem hval
    have hAl : (rot (List.range xs.length) (ix (farOf i) xs.length)).tail.length = xs.length - 1 := by rw [List.length_tail, rot_len, List.length_range]
    have HP := Lib.hid p1
    have HND := Lib.hid hnd
    have HMEM := Lib.hid hmem
    rw [← hval] at HLE HTA
    clear p1 p2 hnd hmem hval
    generalize (rot (List.range xs.length) (ix (farOf i) xs.length)).tail = A at *
    generalize ix (farOf i) xs.length = q at *
    have HAL := Lib.hid hAl
    clear hAl
    go_wp2_with fail
    refine (at_ix k xs.length _ h0 (by omega)).mono ?_
    rintro e w3 ⟨rfl, rfl⟩
    generalize ix k xs.length = K at *
    have HRA := Lib.hid (K2.out.ring.bl (bl_alloc (bl_refl w2) (.cells #[] 3)))
    have HBA := Lib.hid (bl_alloc B2.out (.cells #[] 3))
    rcases Nat.eq_zero_or_pos K with hK0 | hK0
    · subst hK0
      have HE : Hid (spLeft ((q :: A).map fun j => xs.getD j 0) 0 = (q :: A).map fun j => xs.getD j 0) := List.take_append_drop 1 _
      have HE2 : Hid (spTaken ((q :: A).map fun j => xs.getD j 0) 0 = []) := rfl
      go_wp2_with fail
      refine (around_any HRA.out (r := q) hk A HP.out (List.nodup_cons.1 HND.out).1 (fun x hx => (HMEM.out x).1 (List.mem_cons_of_mem _ hx)) (fun j => xs.getD j 0) (fun _ _ => rfl) (by rw [HAL.out]; omega)).mono ?_
      rintro e w5 ⟨v5, rfl, o5, _, _, c5⟩
      have hoe : OwnI (w2.alloc (.cells #[] 3)) w.heap.size (.slice (some ⟨w2.heap.size, 0, none⟩) 0 0) [] := own_base (own_empty w2 _ _) B2.out.size
      have OX : Hid (OwnI w5 w.heap.size (.slice (some ⟨w2.heap.size, 0, none⟩) 0 0) []) := own_chg hoe c5 (fun g hg ⟨j, hj, e⟩ => HRA.out.ne_own hoe (by decide) j hj (hg.trans (congrArg some e)))
      have HS5 : Hid (∀ g, v5.ownBlock = some g → ¬ (Value.slice (some ⟨w2.heap.size, 0, none⟩) 0 0).ownBlock = some g) := fun g h1 h2 => by
        have h3 := (own_lt o5 g h1).1
        have h4 := (own_lt hoe g h2).2
        omega
      have O5 := Lib.hid (own_base o5 HBA.out.size)
      have B5 := Lib.hid (bl_chg HBA.out c5 HGE.out)
      clear o5 c5 hoe
      go_wp2
      go_ret2
      exact ⟨_, _, rfl, by rw [HLE.out, HE.out]; exact O5.out, by rw [HTA.out, HE2.out]; exact OX.out, HS5.out, B5.out⟩
    · have hKp : (0 : Int) < (K : Int) := by omega
      obtain ⟨u1, u2, u3⟩ := path_unlinkK HP.out HND.out (pv := pvc xs.length) (fun x hx => K2.out.ring.pn x ((HMEM.out x).1 hx)) hK0 (by rw [HAL.out]; omega)
      have HU1 := Lib.hid u1
      have HU2 := Lib.hid u2
      have hnq : nxc xs.length q < xs.length := (HMEM.out _).1 (List.mem_cons_of_mem _ u3)
      have hnd1 := (List.nodup_cons.1 HND.out)
      have HE : Hid (spLeft ((q :: A).map fun j => xs.getD j 0) K = (q :: A.drop K).map fun j => xs.getD j 0) := by
        show _ = _
        unfold spLeft
        rw [Nat.add_comm 1 K, List.map_cons, List.drop_succ_cons, List.map_cons, List.map_drop]; rfl
      have HE2 : Hid (spTaken ((q :: A).map fun j => xs.getD j 0) K = (A.take K).map fun j => xs.getD j 0) := by
        show _ = _
        unfold spTaken
        rw [List.map_cons, List.drop_succ_cons, List.drop_zero, List.map_take]
      obtain ⟨C, hC⟩ : ∃ C, A.take K = nxc xs.length q :: C := by
        cases hT : A.take K with
        | nil => have := congrArg List.length hT; rw [List.length_take, List.length_nil, HAL.out] at this; omega
        | cons a C =>
          have h2 := u2
          rw [hT] at h2
          exact ⟨C, by rw [h2.1]⟩
      have HC := Lib.hid hC
      have hCl : C.length + 1 = K := by have := congrArg List.length hC; rw [List.length_take, List.length_cons, HAL.out] at this; omega
      have hCnd : nxc xs.length q ∉ C := by
        have h2 : (A.take K).Nodup := hnd1.2.sublist (List.take_sublist _ _)
        rw [hC] at h2
        exact (List.nodup_cons.1 h2).1
      have hCm : ∀ x ∈ C, x < xs.length := fun x hx => (HMEM.out x).1 (List.mem_cons_of_mem _ (List.mem_of_mem_take (i := K) (by rw [hC]; exact List.mem_cons_of_mem _ hx)))
      have HCM := Lib.hid hCm
      have HCN := Lib.hid hCnd
      have HQN : Hid (q ∉ A.drop K) := fun h => hnd1.1 (List.mem_of_mem_drop h)
      have HDM : Hid (∀ x ∈ A.drop K, x < xs.length) := fun x hx => (HMEM.out x).1 (List.mem_cons_of_mem _ (List.mem_of_mem_drop hx))
      rw [hC] at HU2
      clear u1 u2 u3 hC hCnd hCm hnd1
      go_wp2_with fail
      refine (unlink_far HRA.out (r := q) hk K hK0 (by omega)).mono ?_
      rintro e w4 ⟨rfl, k4, _⟩
      have K4 := Lib.hid k4
      have B4 := Lib.hid (bl_chg HBA.out k4.chg HGE.out)
      clear k4
      generalize lnx (nxc xs.length) (pvc xs.length) q (iter (nxc xs.length) (K + 1) q) = nx' at *
      generalize lpv (nxc xs.length) (pvc xs.length) q (iter (nxc xs.length) (K + 1) q) = pv' at *
      go_wp2_with fail
      refine (around_any K4.out.ring (r := nxc xs.length q) hnq C HU2.out HCN.out HCM.out (fun j => xs.getD j 0) (fun _ _ => rfl) (by omega)).mono ?_
      rintro e w5 ⟨v5, rfl, o5, r5, _, c5⟩
      have O5 := Lib.hid (own_base o5 B4.out.size)
      have R5 := Lib.hid r5
      have B5 := Lib.hid (bl_chg B4.out c5 HGE.out)
      clear o5 r5 c5
      go_wp2_with fail
      refine (around_any R5.out (r := q) hk (A.drop K) HU1.out HQN.out HDM.out (fun j => xs.getD j 0) (fun _ _ => rfl) (by rw [List.length_drop, HAL.out]; omega)).mono ?_
      rintro e w6 ⟨v6, rfl, o6, _, _, c6⟩
      have OX : Hid (OwnI w6 w.heap.size v5 ((nxc xs.length q :: C).map fun j => xs.getD j 0)) := own_chg O5.out c6 (fun g hg ⟨j, hj, e⟩ => R5.out.ne_own O5.out (by decide) j hj (hg.trans (congrArg some e)))
      have HS6 : Hid (∀ g, v6.ownBlock = some g → ¬ v5.ownBlock = some g) := fun g h1 h2 => by
        have h3 := (own_lt o6 g h1).1
        have h4 := (own_lt O5.out g h2).2
        omega
      have O6 := Lib.hid (own_base o6 B5.out.size)
      have B6 := Lib.hid (bl_chg B5.out c6 HGE.out)
      clear o6 c6
      go_wp2
      go_ret2
      exact ⟨_, _, rfl, by rw [HLE.out, HE.out]; exact O6.out, by rw [HTA.out, HE2.out, HC.out]; exact OX.out, HS6.out, B6.out⟩

end Go.Proofs.Ytebkmegkdcnfaaa
