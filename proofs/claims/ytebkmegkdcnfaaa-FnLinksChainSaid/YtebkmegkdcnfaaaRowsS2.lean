/- The walks of the laws' functions on slices of slices of ints, further. -/
import Derived.Test.YtebkmegkdcnfaaaRowsS
namespace Go.Proofs.Ytebkmegkdcnfaaa
open Go.RowKit

def sumLen (rows : List (List Int)) : Nat := (rows.map List.length).sum
theorem sumLen_take (rows : List (List Int)) (k : Nat) (hk : k < rows.length) : sumLen (rows.take (k + 1)) = sumLen (rows.take k) + rows[k].length := by
  unfold sumLen; rw [List.take_succ_eq_append_getElem hk, List.map_append, List.sum_append]; simp
theorem sumLen_take_le (rows : List (List Int)) (k : Nat) : sumLen (rows.take k) ≤ sumLen rows := by
  unfold sumLen
  conv => rhs; rw [← List.take_append_drop k rows, List.map_append, List.sum_append]
  omega



set_option maxRecDepth 100000 in
set_option maxHeartbeats 1000000 in
theorem eqIntSS_true (v u : Value) (rows : List (List Int)) (w : World) (hv : Rowss w v rows) (hu : Rowss w u rows) :
    Calls Try.prog 23 #[v, u] w fun e w' => e = .returned (.bool true) ∧ Bl w w' := by
  obtain ⟨A, c, rfl, hc, hm, hv⟩ := hv.open
  obtain ⟨B, d, rfl, hd, hm2, hu⟩ := hu.open
  have HV := Lib.hid hv
  have HU := Lib.hid hu
  clear hv hu
  unfold maxLen at hm hm2
  go_enter Try.func23, Try.ntmps23
  go_wp2
  go_loopw [5] (fun i wr => ∃ k : Nat, k ≤ rows.length ∧ i = .int .i64 k ∧ Bl w wr) (fun i _ => rows.length - (intOf i).toNat)
  case atStart => exact ⟨0, Nat.zero_le _, rfl, bl_refl _⟩
  case round =>
    obtain ⟨k, hk, rfl, hb⟩ := hrel
    have HB := Lib.hid hb
    clear hb
    by_cases hlt : k < rows.length
    · obtain ⟨b, off, y, rfl, hc1, hy⟩ := HV.out k hlt
      obtain ⟨b2, off2, z, rfl, hc2, hz⟩ := HU.out k hlt
      have r1 := (HB.out.cell (World.block_lt_of_cell? _ _ hc1)).trans hc1
      have r2 := (HB.out.cell (World.block_lt_of_cell? _ _ hc2)).trans hc2
      have HY := Lib.hid (hy.bl HB.out)
      have HZ := Lib.hid (hz.bl HB.out)
      obtain ⟨A2, c2, hy2, _, _, _⟩ := hy.open
      obtain ⟨A3, c3, hz3, _, _, _⟩ := hz.open
      subst hy2 hz3
      clear hc1 hc2 hy hz
      generalize rows[k] = row at *
      go_wp2
      refine region_tail 8 (by kernel_rfl) (by kernel_rfl) ?_
      simp only [List.take_succ_cons, List.take_zero, List.drop_succ_cons, List.drop_zero]
      repeat still_step
      refine wpStill_nil ?_
      go_wp2_with fail
      refine (eqIntS_true _ _ row _ (HY.out.bl (bl_drew (bl_refl _))) (HZ.out.bl (bl_drew (bl_refl _)))).mono ?_
      rintro e w2 ⟨rfl, hb2⟩
      have HB2 := Lib.hid (bl_trans (bl_drew HB.out) hb2)
      clear hb2
      go_wp2
      go_roundw
      case rel => exact ⟨k + 1, by omega, by go_num, HB2.out⟩
      case measure => simp [intOf]; omega
    · go_wp2
      go_ret
      exact ⟨rfl, HB.out⟩

/-- Rows that are marked one behind the other. -/
def markRows : Int → List (List Int) → List (List Int)
  | _, [] => []
  | k, r :: rs => marks k r.length :: markRows (k + r.length) rs
theorem markRows_len (k : Int) (rows : List (List Int)) : (markRows k rows).length = rows.length := by
  induction rows generalizing k with
  | nil => rfl
  | cons r rs ih => simp [markRows, ih]
theorem markRows_append (k : Int) (a b : List (List Int)) : markRows k (a ++ b) = markRows k a ++ markRows (k + sumLen a) b := by
  induction a generalizing k with
  | nil => simp [markRows, sumLen]
  | cons r rs ih => simp [markRows, ih, sumLen, Int.add_assoc]
theorem sumLen_markRows (k : Int) (rows : List (List Int)) : sumLen (markRows k rows) = sumLen rows := by
  induction rows generalizing k with
  | nil => rfl
  | cons r rs ih =>
    have := ih (k + r.length)
    unfold sumLen at *
    simp only [markRows, List.map_cons, List.sum_cons, marks_len, this]
theorem markRows_get (k : Int) (rows : List (List Int)) (j : Nat) (hj : j < rows.length) : (markRows k rows)[j]'(by rw [markRows_len]; exact hj) = marks (k + sumLen (rows.take j)) rows[j].length := by
  have h : markRows k (rows.take j ++ rows.drop j) = markRows k (rows.take j) ++ markRows (k + sumLen (rows.take j)) (rows.drop j) := markRows_append _ _ _
  rw [List.take_append_drop, List.drop_eq_getElem_cons hj] at h
  have hl : (markRows k (rows.take j)).length = j := by rw [markRows_len, List.length_take]; omega
  have h2 := congrArg (fun l => l[j]?) h
  simp only [markRows] at h2
  rw [List.getElem?_append_right (by omega), hl, Nat.sub_self, List.getElem?_cons_zero, List.getElem?_eq_getElem (by rw [markRows_len]; exact hj)] at h2
  simpa using h2

set_option maxRecDepth 100000 in
set_option maxHeartbeats 1000000 in
theorem heldIntSS_marks (v : Value) (k : Int) (rows : List (List Int)) (w : World) (hv : Rowss w v (markRows k rows)) (h0 : 0 ≤ k) (hk : k + sumLen rows ≤ 4611686018427387904) :
    Calls Try.prog 27 #[v, .int .i64 k] w fun e w' => e = .returned (.int .i64 (k + sumLen rows)) ∧ w = w' := by
  obtain ⟨A, c, rfl, hc, hm, hv⟩ := hv.open
  have HV := Lib.hid hv
  clear hv
  unfold maxLen at hm
  rw [markRows_len] at *
  go_enter Try.func27, Try.ntmps27
  go_wp2
  go_loop [1, 5] (fun t i => ∃ j : Nat, j ≤ rows.length ∧ i = .int .i64 j ∧ t = .int .i64 (k + sumLen (rows.take j))) (fun _ i => rows.length - (intOf i).toNat)
  case atStart => exact ⟨0, Nat.zero_le _, rfl, by simp [sumLen]⟩
  case round =>
    obtain ⟨j, hj, rfl, rfl⟩ := hrel
    by_cases hlt : j < rows.length
    · obtain ⟨b, off, u, rfl, hc1, hu⟩ := HV.out j (by rw [markRows_len]; exact hlt)
      rw [markRows_get _ _ _ hlt] at hu
      have HU := Lib.hid hu
      obtain ⟨A2, c2, hu2, _, _, _⟩ := hu.open
      rw [marks_len] at hu2
      subst hu2
      have HS := Lib.hid (sumLen_take rows j hlt)
      have hs2 := sumLen_take_le rows (j + 1)
      rw [HS.out] at hs2
      clear hu
      generalize rows[j].length = n at *
      generalize sumLen (rows.take j) = S at *
      go_wp2_with fail
      refine (heldIntS_marks _ _ n _ HU.out (by omega) (by omega)).mono ?_
      rintro e w2 ⟨rfl, rfl⟩
      go_wp2
      go_round
      case rel => exact ⟨j + 1, by omega, by go_num, by rw [HS.out]; go_num⟩
      case measure => simp [intOf]; omega
    · obtain rfl : j = rows.length := by omega
      rw [List.take_length]
      go_wp2
      go_ret
      exact ⟨rfl, rfl⟩

theorem OwnSS.marked {w w1 : World} {base : Nat} {v : Value} {rows : List (List Int)} {us : List Value} (h : OwnSS w base v rows us) {j : Nat} (hj : j < rows.length) {u : Value} (hu : us[j]? = some u) {ys : List Int} (hy : OwnI w1 base u ys) (hc : Chg (fun b => u.ownBlock = some b) w w1) :
    OwnSS w1 base v (rows.set j ys) us := by
  have hl : us.length = rows.length := by have := h.own.1; omega
  obtain ⟨u0, e0, hu0⟩ := h.row j hj
  rw [hu] at e0
  simp at e0
  subst e0
  refine ⟨?_, fun i hi => ?_, h.sep⟩
  · rw [List.length_set]
    exact own_chg h.own hc fun g hg hg' => own_ne h.own hu0 (by decide) g hg hg'
  · rw [List.length_set] at hi
    by_cases hij : i = j
    · subst hij
      exact ⟨u, hu, by rw [List.getElem_set_self]; exact hy⟩
    · obtain ⟨a, ea, ha⟩ := h.row i hi
      refine ⟨a, ea, ?_⟩
      rw [List.getElem_set_ne (fun e => hij e.symm)]
      refine own_chg ha hc fun g hg hg' => ?_
      rcases Nat.lt_or_ge i j with hlt | hge
      · exact h.sep i j a u hlt ea hu g hg hg'
      · exact h.sep j i u a (by omega) hu ea g hg' hg

set_option maxRecDepth 100000 in
set_option maxHeartbeats 1000000 in
theorem markIntSS_own (v : Value) (base : Nat) (rows : List (List Int)) (us : List Value) (k : Int) (w : World) (hv : OwnSS w base v rows us) (h0 : 0 ≤ k) (hk : k + sumLen rows ≤ 4611686018427387904) :
    Calls Try.prog 26 #[v, .int .i64 k] w fun e w' => e = .returned (.int .i64 (k + sumLen rows)) ∧ OwnSS w' base v (markRows k rows) us ∧ Chg (SSb v us) w w' := by
  obtain ⟨A, c, rfl, hc, hm, hA⟩ := own_open hv.own
  have HV := Lib.hid hv
  have HA := Lib.hid hA
  clear hv hA
  unfold maxLen at hm
  go_enter Try.func26, Try.ntmps26
  go_wp2
  go_loopw [1, 5] (fun t i wr => ∃ j : Nat, j ≤ rows.length ∧ i = .int .i64 j ∧ t = .int .i64 (k + sumLen (rows.take j)) ∧ OwnSS wr base (.slice A rows.length c) (markRows k (rows.take j) ++ rows.drop j) us ∧ Chg (SSb (.slice A rows.length c) us) w wr) (fun _ i _ => rows.length - (intOf i).toNat)
  case atStart => exact ⟨0, Nat.zero_le _, rfl, by simp [sumLen], HV.out, Chg.refl _ _⟩
  case round =>
    obtain ⟨j, hj, rfl, rfl, hown, hchg⟩ := hrel
    have HO := Lib.hid hown
    have HC := Lib.hid hchg
    clear hown hchg
    have hml : (markRows k (rows.take j)).length = j := by rw [markRows_len, List.length_take]; omega
    by_cases hlt : j < rows.length
    · obtain ⟨g, rfl, hg, _⟩ := HA.out (by omega)
      have hjl : j < (markRows k (rows.take j) ++ rows.drop j).length := by rw [List.length_append, hml, List.length_drop]; omega
      obtain ⟨u, hu, hur⟩ := HO.out.row j hjl
      have e1 : (markRows k (rows.take j) ++ rows.drop j)[j] = rows[j] := by
        rw [List.getElem_append_right (by omega)]
        simp [hml]
      rw [e1] at hur
      have hlen2 : (markRows k (rows.take j) ++ rows.drop j).length = rows.length := by rw [List.length_append, hml, List.length_drop]; omega
      have hc1 : wr.cell? ⟨g, j, none⟩ = some u := by
        have h := HO.out.own
        rw [hlen2] at h
        rw [own_cell h (by omega), List.getD_eq_getElem?_getD, hu]; rfl
      have HU := Lib.hid hu
      have HUR := Lib.hid hur
      obtain ⟨A2, c2, hu2, _, _, _⟩ := own_open hur
      subst hu2
      have HS := Lib.hid (sumLen_take rows j hlt)
      have hs2 := sumLen_take_le rows (j + 1)
      rw [HS.out] at hs2
      have HT := Lib.hid (List.take_succ_eq_append_getElem hlt)
      have HDR := Lib.hid (List.drop_eq_getElem_cons hlt)
      have HML := Lib.hid hml
      have HJL := Lib.hid hjl
      clear hu hur e1 hlen2 hml hjl
      have hS : Hid (∀ n, sumLen (rows.take j) = n → True) := fun _ _ => trivial
      generalize hrow : rows[j] = row at *
      generalize hsum : sumLen (rows.take j) = S at *
      have HSUM := Lib.hid hsum
      clear hrow hsum hS
      go_wp2_with fail
      refine (markIntS_own _ base row _ _ HUR.out (by omega) (by omega)).mono ?_
      rintro e w2 ⟨rfl, o2, ch2⟩
      have H2 := Lib.hid (HO.out.marked HJL.out HU.out o2 ch2)
      have HC2 := Lib.hid (HC.out.trans (ch2.mono (fun b hb _ => .inr ⟨_, List.mem_of_getElem? HU.out, hb⟩)))
      clear o2 ch2
      go_wp2
      go_roundw
      case rel =>
        refine ⟨j + 1, by omega, by go_num, by rw [HS.out]; go_num, ?_, HC2.out⟩
        have h := H2.out
        rw [HDR.out, List.set_append_right _ _ (by rw [HML.out]; omega), HML.out, Nat.sub_self, List.set_cons_zero] at h
        rw [HT.out, markRows_append, HSUM.out, List.append_assoc]
        exact h
      case measure => simp [intOf]; omega
    · obtain rfl : j = rows.length := by omega
      rw [List.take_length, List.drop_length, List.append_nil] at HO
      rw [List.take_length]
      clear hml
      go_wp2
      go_ret
      exact ⟨rfl, HO.out, HC.out⟩

end Go.Proofs.Ytebkmegkdcnfaaa
