/- The walk of DealList's reference. -/
import Derived.Test.YthomhekbikpcfaaDealList
namespace Go.Proofs.Ythomhekbikpcfaa
open Go.RowKit

set_option maxHeartbeats 400000 in
theorem Hands_any (k : Int) (w : World) : Calls Try.prog 46 #[.int .i64 k] w fun e w' => e = .returned (.int .i64 (handsOf k)) ∧ w = w' := by
  have h := ix_lt k (n := 50) (by omega)
  have H : Hid (handsOf k = 1 + ix k 50) := rfl
  go_enter Try.func46, Try.ntmps46
  go_wp2_with fail
  refine (At_ix k 50 _ (by omega) (by omega)).mono ?_
  rintro e w1 ⟨rfl, rfl⟩
  go_wp2
  go_ret
  exact ⟨by rw [H.out]; go_num, rfl⟩

theorem dealOf_sum (xs : List Int) (k : Int) : sumLen (dealOf xs k) = xs.length := deal_sum _ (handsOf_bd k).1 xs

/-- One row is another one now. -/
theorem OwnSS.put {w w1 : World} {base g c h n : Nat} {rows : List (List Int)} {us : List Value} {u u' : Value} {row : List Int} (H : OwnSS w base (.slice (some ⟨g, 0, none⟩) n c) rows us) (hu : us[h]? = some u) (hc : Chg (fun k => u.ownBlock = some k) w w1) (ho : OwnI w1 base u' row)
    (hl : ∀ x, u'.ownBlock = some x → u.ownBlock = some x ∨ w.heap.size ≤ x) : OwnSS (w1.setCell ⟨g, h, none⟩ u') base (.slice (some ⟨g, 0, none⟩) n c) (rows.set h row) (us.set h u') := by
  have hus : us.length = rows.length := by have := H.own.1; omega
  have hhl := (List.getElem?_eq_some_iff.1 hu).1
  obtain ⟨_, _, e0, _⟩ := own_open H.own
  injection e0 with _ e0 _
  subst e0
  obtain ⟨u0, eu0, hu0⟩ := H.row h (by omega)
  obtain rfl : u0 = u := by rw [hu] at eu0; exact (Option.some.inj eu0).symm
  have hmem : ∀ x ∈ us, ∀ y, x.ownBlock = some y → y ≠ g := by
    intro x hx y hy e
    obtain ⟨i, hi⟩ := List.mem_iff_getElem?.1 hx
    obtain ⟨u1, e1, h1⟩ := H.row i (by have := (List.getElem?_eq_some_iff.1 hi).1; omega)
    obtain rfl : u1 = x := by rw [hi] at e1; exact (Option.some.inj e1).symm
    exact own_ne h1 H.own (by decide) y hy (by simp [Value.ownBlock, e])
  have hout : w1.ownsRow base 24 1 (.slice (some ⟨g, 0, none⟩) rows.length c) rows.length us := own_chg H.own hc (fun x hx hx' => own_ne hu0 H.own (by decide) x hx' hx)
  have hkeep : ∀ {x : Value} {r : List Int}, OwnI w1 base x r → (∀ y, x.ownBlock = some y → y ≠ g) → OwnI (w1.setCell ⟨g, h, none⟩ u') base x r := fun hx hne => own_keep hx fun y hy => Below.heap_setCell _ _ _ _ (fun e => hne y hy e)
  have hu'g : ∀ y, u'.ownBlock = some y → y ≠ g := by
    intro y hy e
    subst e
    exact own_ne ho hout (by decide) y hy rfl
  refine ⟨?_, fun k hk => ?_, fun i j a b hij hi hj x hx hx' => ?_⟩
  · rw [List.length_set]; exact own_set hout u'
  · rw [List.length_set] at hk
    by_cases hkh : h = k
    · subst hkh
      refine ⟨u', by rw [List.getElem?_set, if_pos rfl, if_pos hhl], ?_⟩
      rw [List.getElem_set, if_pos rfl]
      exact hkeep ho hu'g
    · obtain ⟨y, e, hy⟩ := H.row k hk
      refine ⟨y, by rw [List.getElem?_set, if_neg hkh]; exact e, ?_⟩
      rw [List.getElem_set, if_neg hkh]
      refine hkeep (own_chg hy hc (fun x hx hx' => ?_)) (hmem y (List.mem_of_getElem? e))
      rcases (by omega : k < h ∨ h < k) with h1 | h1
      · exact H.sep k h y u0 h1 e hu x hx hx'
      · exact H.sep h k u0 y h1 hu e x hx' hx
  · rw [List.getElem?_set] at hi hj
    have hne : ∀ i a, h ≠ i → us[i]? = some a → ∀ x, a.ownBlock = some x → u'.ownBlock ≠ some x := by
      intro i a hhi hia x hx hx'
      rcases hl x hx' with h1 | h1
      · rcases (by omega : i < h ∨ h < i) with h2 | h2
        · exact H.sep i h a u0 h2 hia hu x hx h1
        · exact H.sep h i u0 a h2 hu hia x h1 hx
      · have := (H.lt x (.inr ⟨a, List.mem_of_getElem? hia, hx⟩)).2
        omega
    by_cases h1 : h = i
    · subst h1
      rw [if_pos rfl, if_pos hhl] at hi
      rw [if_neg (by omega)] at hj
      obtain rfl : u' = a := Option.some.inj hi
      exact hne j b (by omega) hj x hx' hx
    · rw [if_neg h1] at hi
      by_cases h2 : h = j
      · subst h2
        rw [if_pos rfl, if_pos hhl] at hj
        obtain rfl : u' = b := Option.some.inj hj
        exact hne i a h1 hi x hx hx'
      · rw [if_neg h2] at hj
        exact H.sep i j a b hij hi hj x hx hx'

set_option maxHeartbeats 2000000 in
theorem DealList_spec (v : Value) (xs : List Int) (k : Int) (w : World) (hv : Ints w v xs) (hl : xs.length ≤ 17592186043904) :
    Calls Try.prog 31 #[v, .int .i64 k] w (NewSS w (dealOf xs k)) := by
  obtain ⟨i0, hi, hz0, hz1, hz2⟩ := info_parts intInfo
  obtain ⟨i1, hi1, hy0, hy1, hy2⟩ := info_parts rowInfo
  obtain ⟨A, c, rfl, hc, hm, hv⟩ := hv.open
  have HV := Lib.hid hv
  clear hv
  unfold maxLen at hm
  have HD : Hid (dealOf xs k = deal (handsOf k) xs) := rfl
  have hh := handsOf_bd k
  go_enter Try.func31, Try.ntmps31
  go_wp2_with fail
  refine (Hands_any k _).mono ?_
  rintro e w0 ⟨rfl, rfl⟩
  generalize handsOf k = H at *
  obtain ⟨hh1, hh2⟩ := hh
  go_wp2_with (at_make; refine wpList_make_full _ rfl _ _ 22 rfl w.heap.size 24 i1 _ 1 Try.underlying22 hi1 hy0 hy1 _ _ _ _ H rfl rfl rfl rfl (by rw [hy2]; omega) (by unfold maxLen; omega) (Nat.le_refl _) ?_; intro w1 hown hg)
  have hz : (madeCells (Value.slice none 0 0).cells (H * 1)).toList = List.replicate H (Value.slice none 0 0) := by
    apply List.ext_getElem
    · simp [size_madeCells]
    · intro i h1 h2
      simp [madeCells, Value.cells, Nat.mod_one]
  rw [hz] at hown
  have HSS : Hid (OwnSS w1 w.heap.size (.slice (some ⟨w.heap.size, 0, none⟩) H H) (List.replicate H []) (List.replicate H (Value.slice none 0 0))) := by
    refine ⟨by rw [List.length_replicate]; exact hown, fun k hk => ?_, fun i j a b hij hi hj x hx => ?_⟩
    · rw [List.length_replicate] at hk
      refine ⟨.slice none 0 0, by rw [List.getElem?_replicate, if_pos hk], ?_⟩
      rw [List.getElem_replicate]
      exact ⟨rfl, .inl ⟨rfl, rfl⟩⟩
    · rw [List.getElem?_replicate] at hi
      split at hi
      · obtain rfl := Option.some.inj hi
        simp [Value.ownBlock] at hx
      · cases hi
  have HB1 := Lib.hid ((Below.refl _ _).grown hg (Nat.le_refl _) (by simp))
  clear hown hg hz
  go_loopw [6, 7, 8, 14] (fun _ _ _ i wr => ∃ m : Nat, m ≤ xs.length ∧ i = .int .i64 m ∧ (∃ us, OwnSS wr w.heap.size (.slice (some ⟨w.heap.size, 0, none⟩) H H) (dealTo H xs m) us) ∧ Bl w wr) (fun _ _ _ i _ => xs.length - (intOf i).toNat)
  case atStart => exact ⟨0, Nat.zero_le _, rfl, ⟨_, HSS.out⟩, HB1.out⟩
  case round =>
    clear HSS
    obtain ⟨m, hm', rfl, ⟨us, hss⟩, hbl⟩ := hrel
    have HSS := Lib.hid hss
    have HB := Lib.hid hbl
    clear hss hbl
    by_cases hlt : m < xs.length
    · obtain ⟨b, off, rfl, hc1⟩ := HV.out m hlt
      have r1 := (HB.out.cell (World.block_lt_of_cell? _ _ hc1)).trans hc1
      clear hc1
      have hDS : Hid (dealTo H xs (m + 1) = (dealTo H xs m).set (m % H) ((dealTo H xs m).getD (m % H) [] ++ [xs[m]])) := by
        show dealTo H xs (m + 1) = _
        rw [dealTo]
        congr 3
        rw [List.getD_eq_getElem?_getD, List.getElem?_eq_getElem hlt]; rfl
      have ht : m % H < H := Nat.mod_lt _ hh1
      have hmm : (m : Int) % (H : Int) = ((m % H : Nat) : Int) := by omega
      have hmm2 : (m : Int).tmod (H : Int) = ((m % H : Nat) : Int) := by rw [Int.tmod_eq_emod_of_nonneg (by omega)]; exact hmm
      have hlen := dealTo_len H xs m
      obtain ⟨u, hu, hui⟩ := HSS.out.row (m % H) (by rw [hlen]; exact ht)
      have hown' : wr.ownsRow w.heap.size 24 1 (.slice (some ⟨w.heap.size, 0, none⟩) H H) H us := by have := HSS.out.own; rw [hlen] at this; exact this
      have hcell := own_cell hown' (k := m % H) (by omega)
      rw [List.getD_eq_getElem?_getD, hu] at hcell
      simp only [Option.getD_some] at hcell
      have hfz := own_frozen hown' (m % H)
      clear hown'
      have hrow : (dealTo H xs m).getD (m % H) [] = (dealTo H xs m)[m % H]'(by rw [hlen]; exact ht) := by rw [List.getD_eq_getElem?_getD, List.getElem?_eq_getElem (by rw [hlen]; exact ht)]; rfl
      rw [hrow] at hDS
      have hrl : ((dealTo H xs m)[m % H]'(by rw [hlen]; exact ht)).length ≤ m := by
        have h1 := dealTo_sum H hh1 xs m
        have h2 : ((dealTo H xs m)[m % H]'(by rw [hlen]; exact ht)).length ≤ ((dealTo H xs m).map List.length).sum := le_sum (List.mem_map.2 ⟨_, List.getElem_mem _, rfl⟩)
        omega
      have HU := Lib.hid hu
      have HUI := Lib.hid hui
      clear hu hui hrow
      generalize (dealTo H xs m)[m % H]'(by rw [hlen]; exact ht) = row at *
      generalize dealTo H xs m = R at *
      generalize m % H = h at *
      generalize xs[m] = x at *
      obtain ⟨nu, Au, cu, hvu⟩ := ints_val (OwnI.ints HUI.out)
      subst hvu
      have hgs : w.heap.size < wr.heap.size := World.block_lt_of_cell? _ _ hcell
      have HOUT : Hid (wr.ownsRow w.heap.size 24 1 (.slice (some ⟨w.heap.size, 0, none⟩) H H) H us) := by have := HSS.out.own; rw [hlen] at this; exact this
      go_wp2_with (at_builtin; go_must (refine wpList_push wr rfl (.tmp 28) (.tmp 30) _ rfl w.heap.size 3 i0 _ 8 Try.underlying24 hi hz0 hz1 hz2 rfl (.slice Au nu cu) row.length _ rfl HUI.out (.int .i64 x) rfl rfl rfl (by omega) (by omega) HB.out.size ?_); intro v2 w2 hown2 hchg2 hloc2; obtain ⟨A2, c2, hv2, _, _, _⟩ := own_open hown2; subst hv2; have hout2 := own_chg HOUT.out hchg2 (fun g hg hg' => own_ne HUI.out HOUT.out (by decide) g hg' hg); have hcell2 : ∃ y, w2.cell? ⟨w.heap.size, h, none⟩ = some y := ⟨_, own_cell hout2 (by omega)⟩; obtain ⟨y2, hcell2⟩ := hcell2; have hfz2 := own_frozen hout2 h; have HPUT := Lib.hid (HSS.out.put HU.out hchg2 (OwnI.snoc hown2) hloc2); have HB2 := Lib.hid (bl_set (p := ⟨w.heap.size, h, none⟩) (bl_own HB.out HUI.out hchg2) (Nat.le_refl _) (.slice A2 (row.length + 1) c2)); clear hown2 hchg2 hloc2 hout2)
      go_roundw
      case rel => exact ⟨m + 1, by omega, by go_num, ⟨_, by rw [hDS.out]; exact HPUT.out⟩, HB2.out⟩
      case measure => simp [intOf]; omega
    · obtain rfl : m = xs.length := by omega
      go_wp2
      go_ret
      exact ⟨_, _, rfl, by rw [HD.out]; exact HSS.out, HB.out⟩

set_option maxHeartbeats 400000 in
theorem DealRing_spec (v : Value) (xs : List Int) (k : Int) (w : World) (hv : Ints w v xs) (hl : xs.length ≤ 17592186043904) :
    Calls Try.prog 44 #[v, .int .i64 k] w (NewSS w (dealOf xs k)) := by
  have HV := Lib.hid hv
  clear hv
  go_enter Try.func44, Try.ntmps44
  go_wp2_with fail
  refine (DealList_spec v xs k _ HV.out hl).mono ?_
  rintro e w1 ⟨v1, us, rfl, o1, b1⟩
  have O1 := Lib.hid o1
  have B1 := Lib.hid b1
  clear o1 b1
  go_wp2
  go_ret
  exact ⟨_, _, rfl, O1.out, B1.out⟩

end Go.Proofs.Ythomhekbikpcfaa
