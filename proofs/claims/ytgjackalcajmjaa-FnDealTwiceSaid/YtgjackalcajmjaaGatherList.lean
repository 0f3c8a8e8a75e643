/- The walks of GatherList: of the reference, and over lists in a list. -/
import Derived.Test.YtgjackalcajmjaaHands
import Derived.Test.YtgjackalcajmjaaGatherPure
import Derived.Test.YtgjackalcajmjaaListMove2
import Derived.Test.YtgjackalcajmjaaTurnList
import Derived.Test.YtgjackalcajmjaaRowsS2
namespace Go.Proofs.Ytgjackalcajmjaa
open Go.RowKit

theorem gather_sum (rows : List (List Int)) : (gather rows).length = sumLen rows := gather_len _ rows rfl

/-- Lists in a list: the one that the j-th element holds, and all of them apart. -/
structure GathSt (w wr : World) (all : Nat) (aes : List Nat) (L : List LT) : Prop where
  hands : HandsL w wr L
  lc : LC wr all aes ((L.map fun x => x.1).map IL)
  sep : ∀ b ∈ all :: aes, ∀ x ∈ L, ¬ x.blk b
  ge : ∀ b ∈ all :: aes, w.heap.size ≤ b
  bl : Bl w wr

/-- A new list at the end. -/
theorem GathSt.add {w wr w1 w2 : World} {all l : Nat} {aes es : List Nat} {L : List LT} {xs : List Int} (h : GathSt w wr all aes L) (hl : LC w1 l es (xs.map I)) (hge : ∀ b ∈ l :: es, wr.heap.size ≤ b) (hb : Bl wr w1)
    (h2 : LC w2 all (aes ++ [w1.heap.size]) (((L.map fun x => x.1).map IL) ++ [IL l])) (hc : Chg (· ∈ all :: aes) w1 w2) : GathSt w w2 all (aes ++ [w1.heap.size]) (L ++ [(l, es, xs)]) := by
  have hm := h.hands.more hb hl hge h.bl.size
  have hlt : ∀ b ∈ all :: aes, b < wr.heap.size := fun b hb' => h.lc.lt hb'
  have hsep : ∀ b ∈ all :: aes, ∀ x ∈ L ++ [(l, es, xs)], ¬ x.blk b := by
    intro b hb' x hx hxb
    rcases List.mem_append.1 hx with hx | hx
    · exact h.sep b hb' x hx hxb
    · simp at hx; subst hx
      have h1 := hlt b hb'
      have h3 := hge b hxb
      omega
  have hb2 : ∀ b, b ∈ all :: (aes ++ [w1.heap.size]) → b ∈ all :: aes ∨ b = w1.heap.size := by
    intro b hb'
    simp only [List.mem_cons, List.mem_append] at hb' ⊢
    rcases hb' with h | h | h
    · exact .inl (.inl h)
    · exact .inl (.inr h)
    · exact .inr (by simpa using h)
  refine ⟨hm.chg hc (fun t ht x hx hx' => hsep x hx' t ht hx), by rw [List.map_append, List.map_append]; exact h2, fun b hb' x hx hxb => ?_, fun b hb' => ?_, bl_chg (bl_trans h.bl hb) hc h.ge⟩
  · rcases hb2 b hb' with h1 | h1
    · exact hsep b h1 x hx hxb
    · subst h1
      have := hm.lt hx hxb
      omega
  · rcases hb2 b hb' with h1 | h1
    · exact h.ge b h1
    · rw [h1]; exact Nat.le_trans h.bl.size hb.size
/-- The first list is taken away. -/
theorem GathSt.drop {w wr w2 : World} {all q : Nat} {aes : List Nat} {L : List LT} {t : LT} (h : GathSt w wr all (q :: aes) (t :: L)) (h2 : LC w2 all aes ((L.map fun x => x.1).map IL)) (hc : Chg (· ∈ all :: q :: aes) wr w2) : GathSt w w2 all aes L := by
  have hm : ∀ b ∈ all :: aes, b ∈ all :: q :: aes := fun b hb => by
    rcases List.mem_cons.1 hb with h1 | h1
    · simp [h1]
    · simp [h1]
  refine ⟨⟨fun a ha => (h.hands.lc a (by simp [ha])).chg hc (fun b hb hb' => h.sep b hb' a (by simp [ha]) hb), fun i j a b hij hi hj => h.hands.dis (i + 1) (j + 1) a b (by omega) hi hj, fun a ha => h.hands.ge a (by simp [ha])⟩, h2, fun b hb x hx => h.sep b (hm b hb) x (by simp [hx]), fun b hb => h.ge b (hm b hb), bl_chg h.bl hc h.ge⟩
/-- The first list has changed, and goes to the back. -/
theorem GathSt.turn {w wr w1 w2 : World} {all q : Nat} {aes : List Nat} {L : List LT} {t t' : LT} (h : GathSt w wr all (q :: aes) (t :: L)) (hset' : HandsL w w1 (t' :: L)) (hd : t'.1 = t.1) (hs : ∀ x, t'.blk x → t.blk x) (hbl : Bl w w1)
    (h2 : LC w2 all (aes ++ [q]) ((L.map fun x => x.1).map IL ++ [IL t.1])) (c2 : Chg (· ∈ all :: q :: aes) w1 w2) : GathSt w w2 all (aes ++ [q]) (L ++ [t']) := by
  have hsep : ∀ b ∈ all :: q :: aes, ∀ x ∈ t' :: L, ¬ x.blk b := by
    intro b hb x hx hxb
    rcases List.mem_cons.1 hx with rfl | hx
    · exact h.sep b hb t (by simp) (hs b hxb)
    · exact h.sep b hb x (by simp [hx]) hxb
  have h2' := hset'.chg c2 (fun a ha x hx hx' => hsep x hx' a ha hx)
  have hmem : ∀ b, b ∈ all :: (aes ++ [q]) → b ∈ all :: q :: aes := fun b hb => by
    simp only [List.mem_cons, List.mem_append] at hb ⊢
    rcases hb with h | h | h
    · exact .inl h
    · exact .inr (.inr h)
    · simp at h; exact .inr (.inl h)
  have hmL : ∀ x, x ∈ L ++ [t'] → x ∈ t' :: L := fun x hx => by
    rcases List.mem_append.1 hx with h | h
    · simp [h]
    · simp at h; simp [h]
  refine ⟨⟨fun a ha => h2'.lc a (hmL a ha), fun i j a b hij hi hj => ?_, fun a ha => h2'.ge a (hmL a ha)⟩, ?_, fun b hb x hx => hsep b (hmem b hb) x (hmL x hx), fun b hb => h.ge b (hmem b hb), bl_chg hbl c2 h.ge⟩
  · have hjl := (List.getElem?_eq_some_iff.1 hj).1
    rw [List.length_append] at hjl
    simp only [List.length_cons, List.length_nil] at hjl
    rw [List.getElem?_append_left (by omega)] at hi
    rcases (by omega : j < L.length ∨ j = L.length) with h3 | h3
    · rw [List.getElem?_append_left h3] at hj
      exact h2'.dis (i + 1) (j + 1) a b (by omega) hi hj
    · subst h3
      rw [List.getElem?_append_right (Nat.le_refl _)] at hj
      simp at hj
      subst hj
      intro x hx hx'
      exact h2'.dis 0 (i + 1) t' a (by omega) rfl hi x hx' hx
  · rw [List.map_append, List.map_append]
    simp only [List.map_cons, List.map_nil, hd]
    exact h2

set_option maxHeartbeats 4000000 in
theorem GatherList_impl (v : Value) (rows : List (List Int)) (w : World) (hv : Rowss w v rows) (hl : sumLen rows ≤ 17592186043904) (hr : rows.length ≤ 17592186043904) :
    Calls Try.prog 13 #[v] w (NewInts w (gather rows)) := by
  obtain ⟨i0, hi, hz0, hz1, hz2⟩ := info_parts intInfo
  obtain ⟨A, c, rfl, hc, hm, hv⟩ := hv.open
  have HV := Lib.hid hv
  clear hv
  unfold maxLen at hm
  have HGL := Lib.hid (gather_sum rows)
  go_enter Try.func13, Try.ntmps13
  go_wp2_with fail
  refine (lnew_any _).mono ?_
  rintro e w1 ⟨rfl, h1, b1, hs1⟩
  clear hs1
  have H1 := Lib.hid h1
  have B1 := Lib.hid b1
  clear h1 b1
  generalize hroot : w.heap.size = root at *
  have HR := Lib.hid hroot
  clear hroot
  go_wp2
  go_loopw [5, 12] (fun _ i wr => ∃ k : Nat, k ≤ rows.length ∧ i = .int .i64 k ∧ ∃ aes L, GathSt w wr root aes L ∧ L.map (fun t => t.2.2) = rows.take k) (fun _ i _ => rows.length - (intOf i).toNat)
  case atStart => exact ⟨0, Nat.zero_le _, rfl, [], [], ⟨⟨fun t ht => (by cases ht), fun i j a b _ hi => by simp at hi, fun t ht => (by cases ht)⟩, H1.out, fun b _ x hx => (by cases hx), by simp [HR.out], B1.out⟩, rfl⟩
  case round =>
    obtain ⟨k, hk, rfl, aes, L, hall, hLr⟩ := hrel
    have HALL := Lib.hid hall
    have HLR := Lib.hid hLr
    have hLk : L.length = k := by have := congrArg List.length hLr; simp at this; omega
    have hak : aes.length = k := by rw [hall.lc.len_eq]; simpa using hLk
    have HAK := Lib.hid hak
    clear hall hLr hLk hak
    by_cases hlt : k < rows.length
    · obtain ⟨b, off, u, rfl, hc1, hu⟩ := HV.out k hlt
      have r1 := (HALL.out.bl.cell (World.block_lt_of_cell? _ _ hc1)).trans hc1
      have HU := Lib.hid (hu.bl HALL.out.bl)
      obtain ⟨A2, c2, hu2, _, _, _⟩ := hu.open
      subst hu2
      have HT := Lib.hid (List.take_succ_eq_append_getElem hlt)
      have hrk : rows[k].length ≤ sumLen rows := le_sum (List.mem_map.2 ⟨_, List.getElem_mem hlt, rfl⟩)
      clear hc1 hu
      generalize rows[k] = row at *
      go_wp2_with fail
      refine (listOf_any _ row _ HU.out (by omega)).mono ?_
      rintro e w2 ⟨l2, es2, rfl, h2, g2, b2⟩
      have H2 := Lib.hid h2
      have G2 := Lib.hid g2
      have B2 := Lib.hid b2
      clear h2 g2 b2
      go_wp2_with fail
      refine (pushBack_lc (HALL.out.lc.bl B2.out) _ _ (by rw [HAK.out]; omega)).mono ?_
      rintro e w3 ⟨rfl, h3, c3⟩
      have H3 := Lib.hid (HALL.out.add H2.out G2.out B2.out h3 c3)
      clear h3 c3
      go_wp2
      go_roundw
      case rel => exact ⟨k + 1, by omega, by go_num, _, _, H3.out, by rw [HT.out, List.map_append, HLR.out]; rfl⟩
      case measure => simp [intOf]; omega
    · obtain rfl : k = rows.length := by omega
      rw [List.take_length] at HLR
      have HM0 : Hid (L.length + sumLen (L.map fun t => t.2.2) ≤ rows.length + sumLen rows) := by
        show _ ≤ _
        rw [HLR.out]
        have := congrArg List.length HLR.out
        rw [List.length_map] at this
        omega
      obtain ⟨M, hM⟩ : ∃ M, M = rows.length + sumLen rows := ⟨_, rfl⟩
      have HMM := Lib.hid hM
      clear hM
      go_wp2
      go_loopg [6, 7, 8] (L.length + sumLen (L.map fun t => t.2.2)) (fun g ov _ _ wr => ∃ aes L ys, L.length + sumLen (L.map fun t => t.2.2) = g ∧ g ≤ M ∧ GathSt w wr root aes L ∧ OwnI wr w.heap.size ov ys ∧ gather rows = ys ++ gather (L.map fun t => t.2.2))
      case atStart =>
        have hb := bl_alloc (bl_refl wr) (.cells #[] 3)
        refine ⟨aes, L, [], rfl, by rw [HMM.out]; exact HM0.out, ⟨HALL.out.hands.bl hb, HALL.out.lc.bl hb, HALL.out.sep, HALL.out.ge, bl_trans HALL.out.bl hb⟩, own_base (own_empty _ _ _) HALL.out.bl.size, by rw [HLR.out]; rfl⟩
      case round =>
        clear HALL HLR HAK HM0 L aes
        obtain ⟨aes, L, ys, hg, hgM, hst, hown, hga⟩ := hrel
        have HG := Lib.hid hg
        have HGM := Lib.hid hgM
        have HST := Lib.hid hst
        have HO := Lib.hid hown
        have HGA := Lib.hid hga
        have hal : aes.length = L.length := by rw [hst.lc.len_eq]; simp
        have HAL := Lib.hid hal
        clear hg hgM hst hown hga hal
        go_wp2_with fail
        refine (llen_lc HST.out.lc).mono ?_
        rintro e w2 ⟨rfl, rfl⟩
        cases L with
        | nil =>
          obtain rfl : aes = [] := List.eq_nil_of_length_eq_zero HAL.out
          simp only [List.length_nil]
          have HGE : Hid (gather rows = ys) := by
            show _ = _
            have := HGA.out
            rw [List.map_nil, gather_empty, List.append_nil] at this
            exact this
          go_wp2
          go_ret
          exact ⟨_, rfl, by rw [HGE.out]; exact HO.out, HST.out.bl⟩
        | cons t L =>
          cases aes with
          | nil => exact absurd HAL.out (by simp)
          | cons q aes =>
            obtain ⟨l, es, zs⟩ := t
            have hal2 : aes.length + 1 ≤ 4611686018427387904 := by
              have h1 := HAL.out
              have h2 := HG.out
              have h3 := HGM.out
              have h4 := HMM.out
              simp only [List.length_cons] at h1 h2
              omega
            have hc3 : wr.cell? ⟨q, 3, none⟩ = some (IL l) := HST.out.lc.cell3 (i := 0) (by simp)
            have hta2 := run_assert_list l
            have HHL : Hid (LC wr l es (zs.map I)) := HST.out.hands.lc (l, es, zs) (by simp)
            have hez : es.length = zs.length := by rw [HHL.out.len_eq]; simp
            have HEZ := Lib.hid hez
            have HSEP : Hid (∀ b ∈ root :: q :: aes, b ∉ l :: es) := fun b hb hx => HST.out.sep b hb (l, es, zs) (by simp) hx
            have hlen1 : (0 : Int) < ((aes.length + 1 : Nat) : Int) := by omega
            clear hez
            rw [List.length_cons]
            go_wp2_with fail
            refine (front_some HST.out.lc (by simp)).mono ?_
            rintro e w2 ⟨rfl, rfl⟩
            simp only [List.getElem_cons_zero]
            go_wp2_with fail
            refine (llen_lc HHL.out).mono ?_
            rintro e w2 ⟨rfl, rfl⟩
            rw [HEZ.out]
            cases zs with
            | nil =>
              simp only [List.length_nil]
              go_wp2_with fail
              refine (lremove_lc HST.out.lc (by rw [List.length_cons]; exact hal2) (i := 0) rfl rfl).mono ?_
              rintro e w3 ⟨rfl, h3, c3⟩
              have H3 := Lib.hid (HST.out.drop h3 c3)
              have O3 := Lib.hid (HST.out.lc.own c3 HO.out (by decide) (by decide))
              clear h3 c3 hc3
              go_wp2
              go_roundg (L.length + sumLen (L.map fun t => t.2.2))
              case rel =>
                refine ⟨aes, L, ys, rfl, ?_, H3.out, O3.out, ?_⟩
                · have h1 := HG.out
                  have h2 := HGM.out
                  simp only [List.length_cons, List.map_cons] at h1
                  unfold sumLen at *
                  simp only [List.map_cons, List.sum_cons, List.length_nil] at h1
                  omega
                · have h1 := HGA.out
                  rw [List.map_cons, gather_skip] at h1
                  exact h1
              case measure =>
                have h1 := HG.out
                simp only [List.length_cons, List.map_cons] at h1
                unfold sumLen at *
                simp only [List.map_cons, List.sum_cons, List.length_nil] at h1
                omega
            | cons z zs =>
              obtain ⟨f, es, rfl⟩ : ∃ f es', es = f :: es' := by
                cases es with
                | nil => exact absurd HEZ.out (by simp)
                | cons f es => exact ⟨f, es, rfl⟩
              have hzl : (0 : Int) < (((z :: zs).length : Nat) : Int) := by rw [List.length_cons]; omega
              have hz0' : ((((z :: zs).length : Nat) : Int) == 0) = false := by rw [beq_eq_false_iff_ne, List.length_cons]; omega
              have hesl : (f :: es).length ≤ 4611686018427387904 := by
                have h1 := HG.out
                have h2 := HGM.out
                have h3 := HMM.out
                have h4 := HEZ.out
                simp only [List.length_cons, List.map_cons] at h1 h4 ⊢
                unfold sumLen at *
                simp only [List.map_cons, List.sum_cons, List.length_cons] at h1
                omega
              have hta := run_assert_int z
              have HYL : Hid (ys.length + 1 ≤ 17592186043904) := by
                show _ ≤ _
                have h1 := congrArg List.length HGA.out
                rw [HGL.out, List.length_append, gather_sum, List.map_cons] at h1
                unfold sumLen at *
                simp only [List.map_cons, List.sum_cons, List.length_cons] at h1
                omega
              generalize hzz : (z :: zs).length = zl at *
              clear hzz
              go_wp2_with fail
              refine (front_some HHL.out (by simp)).mono ?_
              rintro e w2 ⟨rfl, rfl⟩
              simp only [List.getElem_cons_zero]
              go_wp2_with fail
              refine (lremove_lc HHL.out hesl (i := 0) rfl rfl).mono ?_
              rintro e w3 ⟨rfl, h3, c3⟩
              have H3 : Hid (LC w3 l es (zs.map I)) := h3
              have C3 := Lib.hid c3
              have HLC3 := Lib.hid (HST.out.lc.chg c3 HSEP.out)
              have O3 := Lib.hid (HHL.out.own c3 HO.out (by decide) (by decide))
              clear h3 c3 hc3
              have hys : ys.length + 1 ≤ 17592186043904 := HYL.out
              go_wp2_with (at_builtin; go_must (refine wpList_push w3 rfl (.tmp 39) (.tmp 45) _ rfl w.heap.size 3 i0 _ 8 Try.underlying22 hi hz0 hz1 hz2 rfl u6 _ _ rfl O3.out (.int .i64 z) rfl rfl rfl (by omega) (by omega) (Nat.le_trans HST.out.bl.size C3.out.size) ?_); intro v4 w4 hown4 hchg4 hloc4)
              have O4 := Lib.hid (OwnI.snoc hown4)
              have HLC4 := Lib.hid (HLC3.out.chg hchg4 (HLC3.out.ne_own O3.out (by decide) (by decide)))
              have HSET : Hid (HandsL w w4 ((l, es, zs) :: L)) := by
                have h5 : HandsL w w3 ((l, es, zs) :: L) := HST.out.hands.set (j := 0) (t := (l, f :: es, z :: zs)) (t' := (l, es, zs)) rfl H3.out C3.out (fun x hx => by
                  refine .inl ?_
                  simp only [LT.blk, List.mem_cons] at hx ⊢
                  rcases hx with h | h
                  · exact .inl h
                  · exact .inr (.inr h)) HST.out.bl.size
                exact h5.chg hchg4 (h5.ne_own O3.out (by decide) (by decide))
              have HB4 : Hid (Bl w w4) := bl_own (bl_chg HST.out.bl C3.out (fun i hi => HST.out.hands.ge (l, f :: es, z :: zs) (by simp) i hi)) O3.out hchg4
              clear hown4 hchg4 hloc4
              refine (moveToBack_lc HLC4.out (i := 0) rfl rfl).mono ?_
              rintro e w5 ⟨rfl, h5, c5⟩
              have H5 := Lib.hid (HST.out.turn (t' := (l, es, zs)) HSET.out rfl (fun x hx => by
                simp only [LT.blk, List.mem_cons] at hx ⊢
                rcases hx with h | h
                · exact .inl h
                · exact .inr (.inr h)) HB4.out h5 c5)
              have O5 := Lib.hid (HLC4.out.own c5 O4.out (by decide) (by decide))
              clear h5 c5
              go_wp2
              go_roundg (L.length + sumLen (L.map fun t => t.2.2) + 1 + zs.length)
              case rel =>
                refine ⟨_, _, ys ++ [z], ?_, ?_, H5.out, O5.out, ?_⟩
                · rw [List.length_append, List.map_append]
                  unfold sumLen
                  rw [List.map_append, List.sum_append]
                  simp
                  omega
                · have h1 := HG.out
                  have h2 := HGM.out
                  simp only [List.length_cons, List.map_cons] at h1
                  unfold sumLen at *
                  simp only [List.map_cons, List.sum_cons, List.length_cons] at h1
                  omega
                · have h1 := HGA.out
                  rw [List.map_cons, gather_front] at h1
                  rw [h1, List.map_append, List.append_assoc]
                  rfl
              case measure =>
                have h1 := HG.out
                simp only [List.length_cons, List.map_cons] at h1
                unfold sumLen at *
                simp only [List.map_cons, List.sum_cons, List.length_cons] at h1
                omega

end Go.Proofs.Ytgjackalcajmjaa
