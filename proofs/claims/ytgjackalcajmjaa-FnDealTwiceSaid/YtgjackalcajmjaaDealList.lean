/- The walk of DealList over lists in a list. -/
import Derived.Test.YtgjackalcajmjaaHands
import Derived.Test.YtgjackalcajmjaaDealPure
import Derived.Test.YtgjackalcajmjaaListMove2
import Derived.Test.YtgjackalcajmjaaTurnList
import Derived.Test.YtgjackalcajmjaaSnoc
namespace Go.Proofs.Ytgjackalcajmjaa
open Go.RowKit

/-- How many hands. -/
def handsOf (k : Int) : Nat := 1 + ix k 50
theorem handsOf_bd (k : Int) : 0 < handsOf k ∧ handsOf k ≤ 50 := by have := ix_lt k (n := 50) (by omega); unfold handsOf; omega
def dealOf (xs : List Int) (k : Int) : List (List Int) := deal (handsOf k) xs

set_option maxHeartbeats 400000 in
theorem hands_any (k : Int) (w : World) : Calls Try.prog 36 #[.int .i64 k] w fun e w' => e = .returned (.int .i64 (handsOf k)) ∧ w = w' := by
  have h := ix_lt k (n := 50) (by omega)
  have H : Hid (handsOf k = 1 + ix k 50) := rfl
  go_enter Try.func36, Try.ntmps36
  go_wp2_with fail
  refine (at_ix k 50 _ (by omega) (by omega)).mono ?_
  rintro e w1 ⟨rfl, rfl⟩
  go_wp2
  go_ret
  exact ⟨by rw [H.out]; go_num, rfl⟩

theorem listPInfo : (Try.prog.info? 39).map (fun i => (i.zero, i.size, i.bytes)) = some (some (.pointer none), 1, 8) := by kernel_rfl

/-- The hands in a list, and the slice that keeps their first order. -/
structure DealSt (w wr : World) (all : Nat) (aes : List Nat) (L : List LT) (t : Nat) (fv : Value) : Prop where
  hands : HandsL w wr L
  lc : LC wr all (rot aes t) ((rot (L.map fun x => x.1) t).map IL)
  sep : ∀ b ∈ all :: aes, ∀ x ∈ L, ¬ x.blk b
  ge : ∀ b ∈ all :: aes, w.heap.size ≤ b
  first : wr.ownsRow w.heap.size 39 1 fv L.length (L.map fun x => P x.1)
  bl : Bl w wr
  len : aes.length = L.length

theorem rot0 {α : Type} (xs : List α) : rot xs 0 = xs := by simp [rot]
theorem rotn {α : Type} (xs : List α) : rot xs xs.length = xs := by simp [rot]
theorem mem_rot' {α : Type} (xs : List α) (k : Nat) (x : α) : x ∈ rot xs k ↔ x ∈ xs := by
  unfold rot
  rw [List.mem_append, or_comm, ← List.mem_append, List.take_append_drop]
theorem DealSt.add {w wr w2 w3 w4 : World} {all l : Nat} {aes : List Nat} {L : List LT} {fv fv' : Value} (h : DealSt w wr all aes L 0 fv) (hl : LC w2 l [] []) (hle : wr.heap.size ≤ l) (hb : Bl wr w2)
    (ho : w3.ownsRow w.heap.size 39 1 fv' (L.length + 1) ((L.map fun x => P x.1) ++ [P l])) (hc : Chg (fun k => fv.ownBlock = some k) w2 w3)
    (h4 : LC w4 all (aes ++ [w3.heap.size]) (((L.map fun x => x.1).map IL) ++ [IL l])) (hc4 : Chg (· ∈ all :: aes) w3 w4) : DealSt w w4 all (aes ++ [w3.heap.size]) (L ++ [(l, [], [])]) 0 fv' := by
  have hm := h.hands.more (xs := []) hb hl (fun b hb' => by simp at hb'; subst hb'; exact hle) h.bl.size
  have ho2 := own_bl h.first hb
  have hm3 := hm.chg hc (hm.ne_own ho2 (by decide) (by decide))
  have hlc2 : LC w2 all aes ((L.map fun x => x.1).map IL) := by have := h.lc; rw [rot0, rot0] at this; exact this.bl hb
  have hlc3 := hlc2.chg hc (hlc2.ne_own ho2 (by decide) (by decide))
  have hlt : ∀ b ∈ all :: aes, b < wr.heap.size := fun b hb' => by have := h.lc.lt (b := b) (by rw [rot0]; exact hb'); exact this
  have hsep : ∀ b ∈ all :: aes, ∀ x ∈ L ++ [(l, [], [])], ¬ x.blk b := by
    intro b hb' x hx hxb
    rcases List.mem_append.1 hx with hx | hx
    · exact h.sep b hb' x hx hxb
    · simp at hx; subst hx
      have h1 := hlt b hb'
      simp [LT.blk] at hxb
      omega
  have hm4 := hm3.chg hc4 (fun t ht x hx hx' => hsep x hx' t ht hx)
  refine ⟨hm4, by rw [rot0, rot0, List.map_append, List.map_append]; exact h4, fun b hb' x hx hxb => ?_, fun b hb' => ?_, ?_, ?_, by rw [List.length_append, List.length_append, h.len]; rfl⟩
  · have hb2 : b ∈ all :: aes ∨ b = w3.heap.size := by
      simp only [List.mem_cons, List.mem_append] at hb' ⊢
      rcases hb' with h | h | h
      · exact .inl (.inl h)
      · exact .inl (.inr h)
      · exact .inr (by simpa using h)
    rcases hb2 with h1 | h1
    · exact hsep b h1 x hx hxb
    · subst h1
      have := hm3.lt hx hxb
      omega
  · have hb2 : b ∈ all :: aes ∨ b = w3.heap.size := by
      simp only [List.mem_cons, List.mem_append] at hb' ⊢
      rcases hb' with h | h | h
      · exact .inl (.inl h)
      · exact .inl (.inr h)
      · exact .inr (by simpa using h)
    rcases hb2 with h1 | h1
    · exact h.ge b h1
    · rw [h1]; exact Nat.le_trans h.bl.size (Nat.le_trans hb.size hc.size)
  · rw [List.map_append, List.length_append]
    exact hlc3.own hc4 ho (by decide) (by decide)
  · exact bl_chg (bl_own (bl_trans h.bl hb) ho2 hc) hc4 h.ge

theorem DealSt.step {w wr w2 w3 : World} {all l : Nat} {aes es : List Nat} {L : List LT} {ys : List Int} {v : Int} {t : Nat} {fv : Value} (h : DealSt w wr all aes L t fv) (hL : L[t]? = some (l, es, ys))
    (h2 : LC w2 l (es ++ [wr.heap.size]) ((ys ++ [v]).map I)) (c2 : Chg (· ∈ l :: es) wr w2) (h3 : LC w3 all (rot aes (t + 1)) ((rot (L.map fun x => x.1) (t + 1)).map IL)) (c3 : Chg (· ∈ all :: aes) w2 w3) :
    DealSt w w3 all aes (L.set t (l, es ++ [wr.heap.size], ys ++ [v])) (t + 1) fv := by
  have hs : HandsL w w2 (L.set t (l, es ++ [wr.heap.size], ys ++ [v])) := by
    refine h.hands.set hL h2 c2 (fun x hx => ?_) h.bl.size
    simp only [LT.blk, List.mem_cons, List.mem_append] at hx ⊢
    rcases hx with h | h | h
    · exact .inl (.inl h)
    · exact .inl (.inr h)
    · simp at h; exact .inr (by omega)
  have hlt : ∀ b ∈ all :: aes, b < wr.heap.size := fun b hb' => h.lc.lt (by
    rcases List.mem_cons.1 hb' with h1 | h1
    · simp [h1]
    · exact List.mem_cons_of_mem _ ((mem_rot' _ _ _).2 h1))
  have hsep : ∀ b ∈ all :: aes, ∀ x ∈ L.set t (l, es ++ [wr.heap.size], ys ++ [v]), ¬ x.blk b := by
    intro b hb' x hx hxb
    rcases List.mem_or_eq_of_mem_set hx with h1 | h1
    · exact h.sep b hb' x h1 hxb
    · subst h1
      have h4 := h.sep b hb' _ (List.mem_of_getElem? hL)
      have h5 := hlt b hb'
      simp only [LT.blk, List.mem_cons, List.mem_append] at hxb h4
      rcases hxb with h | h | h
      · exact h4 (.inl h)
      · exact h4 (.inr h)
      · simp at h; omega
  have hh : (L.set t (l, es ++ [wr.heap.size], ys ++ [v])).map (fun x => x.1) = L.map fun x => x.1 := by
    rw [set_map]
    exact set_same (by rw [List.getElem?_map, hL]; rfl)
  refine ⟨hs.chg c3 (fun a ha x hx hx' => hsep x hx' a ha hx), by rw [hh]; exact h3, hsep, h.ge, ?_, ?_, by rw [List.length_set]; exact h.len⟩
  · have hp : (L.set t (l, es ++ [wr.heap.size], ys ++ [v])).map (fun x => P x.1) = L.map fun x => P x.1 := by
      have := congrArg (List.map P) hh
      rw [List.map_map, List.map_map] at this
      exact this
    rw [hp, List.length_set]
    have o2 := (h.hands.lc _ (List.mem_of_getElem? hL)).own c2 h.first (by decide) (by decide)
    have hall : LC w2 all (rot aes t) ((rot (L.map fun x => x.1) t).map IL) := h.lc.chg c2 (fun b hb' hx => by
      have hb2 : b ∈ all :: aes := by
        rcases List.mem_cons.1 hb' with h1 | h1
        · simp [h1]
        · exact List.mem_cons_of_mem _ ((mem_rot' _ _ _).1 h1)
      exact h.sep b hb2 _ (List.mem_of_getElem? hL) hx)
    exact own_chg o2 c3 (fun g hg hg' => hall.ne_own o2 (by decide) (by decide) g (by
      rcases List.mem_cons.1 hg' with h1 | h1
      · simp [h1]
      · exact List.mem_cons_of_mem _ ((mem_rot' _ _ _).2 h1)) hg)
  · exact bl_chg (bl_chg h.bl c2 (fun i hi => h.hands.ge _ (List.mem_of_getElem? hL) i hi)) c3 h.ge
theorem DealSt.wrap {w wr : World} {all : Nat} {aes : List Nat} {L : List LT} {fv : Value} (h : DealSt w wr all aes L L.length fv) : DealSt w wr all aes L 0 fv := by
  refine ⟨h.hands, ?_, h.sep, h.ge, h.first, h.bl, h.len⟩
  have := h.lc
  rw [show rot aes L.length = aes by rw [← h.len]; exact rotn _, show rot (L.map fun x => x.1) L.length = L.map fun x => x.1 by rw [← List.length_map (f := fun x : LT => x.1)]; exact rotn _] at this
  rw [rot0, rot0]
  exact this

set_option maxHeartbeats 4000000 in
theorem DealList_impl (v : Value) (xs : List Int) (k : Int) (w : World) (hv : Ints w v xs) (hl : xs.length ≤ 17592186043904) :
    Calls Try.prog 14 #[v, .int .i64 k] w (NewSS w (dealOf xs k)) := by
  obtain ⟨i0, hi, hz0, hz1, hz2⟩ := info_parts listPInfo
  obtain ⟨i1, hi1, hy0, hy1, hy2⟩ := info_parts rowInfo
  obtain ⟨A, c, rfl, hc, hm, hv⟩ := hv.open
  have HV := Lib.hid hv
  clear hv
  unfold maxLen at hm
  have HD : Hid (dealOf xs k = deal (handsOf k) xs) := rfl
  have hh := handsOf_bd k
  go_enter Try.func14, Try.ntmps14
  go_wp2_with fail
  refine (hands_any k _).mono ?_
  rintro e w0 ⟨rfl, rfl⟩
  generalize handsOf k = H at *
  obtain ⟨hh1, hh2⟩ := hh
  go_wp2_with fail
  refine (lnew_any _).mono ?_
  rintro e w1 ⟨rfl, h1, b1, hs1⟩
  clear hs1
  have H1 := Lib.hid h1
  have B1 := Lib.hid b1
  clear h1 b1
  generalize hroot : w.heap.size = root at *
  have HR := Lib.hid hroot
  clear hroot
  go_wp2
  go_loopw [6, 7, 8] (fun fv i _ wr => ∃ j : Nat, j ≤ H ∧ i = .int .i64 j ∧ ∃ aes L, DealSt w wr root aes L 0 fv ∧ L.length = j ∧ L.map (fun x => x.2.2) = List.replicate j []) (fun _ i _ _ => H - (intOf i).toNat)
  case atStart =>
    refine ⟨0, Nat.zero_le _, rfl, [], [], ⟨⟨fun t ht => (by cases ht), fun i j a b _ hi => by simp at hi, fun t ht => (by cases ht)⟩, by rw [rot0, rot0]; exact H1.out.bl (bl_alloc (bl_refl _) _), fun b _ x hx => (by cases hx), by simp [HR.out], own_base (own_empty _ _ _) B1.out.size, bl_alloc B1.out _, rfl⟩, rfl, rfl⟩
  case round =>
    obtain ⟨j, hj, rfl, aes, L, hst, hLj, hLe⟩ := hrel
    have HST := Lib.hid hst
    have HLJ := Lib.hid hLj
    have HLE := Lib.hid hLe
    clear hst hLj hLe
    by_cases hlt : j < H
    · go_wp2_with fail
      refine (lnew_any _).mono ?_
      rintro e w2 ⟨rfl, h2, b2, hs2⟩
      clear hs2
      have H2 := Lib.hid h2
      have B2 := Lib.hid b2
      have HF2 := Lib.hid (own_bl HST.out.first b2)
      clear h2 b2
      generalize hnl : wr.heap.size = nl at *
      have HNL := Lib.hid hnl
      clear hnl
      go_wp2_with (at_builtin; go_must (refine wpList_push w2 rfl (.tmp 25) (.tmp 27) _ rfl w.heap.size 39 i0 _ 8 Try.underlying50 hi hz0 hz1 hz2 rfl u6 _ _ rfl HF2.out (P nl) rfl rfl rfl (by rw [HLJ.out]; omega) (by rw [HLJ.out]; omega) (Nat.le_trans HST.out.bl.size B2.out.size) ?_); intro v3 w3 hown3 hchg3 hloc3)
      have HLC3 : Hid (LC w3 root aes ((L.map fun x => x.1).map IL)) := by
        have := HST.out.lc
        rw [rot0, rot0] at this
        have h2 := this.bl B2.out
        exact h2.chg hchg3 (h2.ne_own HF2.out (by decide) (by decide))
      have HO3 := Lib.hid hown3
      have HC3 := Lib.hid hchg3
      clear hown3 hchg3 hloc3
      have hal : aes.length ≤ 50 := by have h1 := HST.out.len; have h2 := HLJ.out; omega
      refine (pushBack_lc HLC3.out _ _ (by omega)).mono ?_
      rintro e w4 ⟨rfl, h4, c4⟩
      have H4 := Lib.hid (HST.out.add H2.out (by rw [HNL.out]; exact Nat.le_refl _) B2.out HO3.out HC3.out h4 c4)
      clear h4 c4
      go_wp2
      go_roundw
      case rel => exact ⟨j + 1, by omega, by go_num, _, _, H4.out, by rw [List.length_append, HLJ.out]; rfl, by rw [List.map_append, HLE.out, List.replicate_succ']; rfl⟩
      case measure => simp [intOf]; omega
    · obtain rfl : j = H := by omega
      have HDT : Hid (dealTo j xs 0 = List.replicate j []) := rfl
      obtain ⟨A1, c1, hu6, hc1, hm1, hx1⟩ := own_open HST.out.first
      clear hx1
      rw [HLJ.out] at hu6 hc1
      subst hu6
      unfold maxLen at hm1
      go_wp2
      go_loopw [10, 11, 35] (fun _ _ i wr => ∃ m : Nat, m ≤ xs.length ∧ i = .int .i64 m ∧ ∃ L, DealSt w wr root aes L (m % j) (.slice A1 j c1) ∧ L.length = j ∧ L.map (fun x => x.2.2) = dealTo j xs m) (fun _ _ i _ => xs.length - (intOf i).toNat)
      case atStart => exact ⟨0, Nat.zero_le _, rfl, L, by rw [Nat.zero_mod]; exact HST.out, HLJ.out, by rw [HDT.out]; exact HLE.out⟩
      case round =>
        clear HST HLJ HLE L
        obtain ⟨m, hm', rfl, L, hst, hLj, hLe⟩ := hrel
        have HST := Lib.hid hst
        have HLJ := Lib.hid hLj
        have HLE := Lib.hid hLe
        clear hst hLj hLe
        by_cases hlt : m < xs.length
        · obtain ⟨b, off, rfl, hc1⟩ := HV.out m hlt
          have r1 := (HST.out.bl.cell (World.block_lt_of_cell? _ _ hc1)).trans hc1
          clear hc1
          have ht : m % j < j := Nat.mod_lt _ hh1
          have htL : m % j < L.length := by rw [HLJ.out]; exact ht
          have hta : m % j < aes.length := by rw [HST.out.len, HLJ.out]; exact ht
          have hDS : Hid (dealTo j xs (m + 1) = (dealTo j xs m).set (m % j) ((dealTo j xs m).getD (m % j) [] ++ [xs[m]])) := by
            show dealTo j xs (m + 1) = _
            rw [dealTo]
            congr 3
            rw [List.getD_eq_getElem?_getD, List.getElem?_eq_getElem hlt]; rfl
          have HMS : Hid ((m + 1) % j = if m % j + 1 = j then 0 else m % j + 1) := by
            show (m + 1) % j = _
            have hdm := Nat.div_add_mod m j
            by_cases h : m % j + 1 = j
            · rw [if_pos h]
              have e : m + 1 = j * (m / j + 1) := by rw [Nat.mul_add, Nat.mul_one]; omega
              rw [e]; exact Nat.mul_mod_right _ _
            · rw [if_neg h]
              have e : m + 1 = (m % j + 1) + j * (m / j) := by omega
              rw [e, Nat.add_mul_mod_self_left, Nat.mod_eq_of_lt (by omega)]
          generalize xs[m] = x at *
          have hL : L[m % j]? = some L[m % j] := List.getElem?_eq_getElem htL
          obtain ⟨l, es, ys, hLt⟩ : ∃ l es ys, L[m % j] = (l, es, ys) := ⟨_, _, _, rfl⟩
          rw [hLt] at hL
          have HL := Lib.hid hL
          obtain ⟨e1, e2⟩ := rot_cons aes (m % j) hta
          obtain ⟨e3, e4⟩ := rot_cons (L.map fun x => x.1) (m % j) (by rw [List.length_map]; exact htL)
          have e5 : (L.map fun x => x.1)[m % j]'(by rw [List.length_map]; exact htL) = l := by rw [List.getElem_map, hLt]
          rw [e5] at e3 e4
          have HE2 := Lib.hid e2
          have HE4 := Lib.hid e4
          have hlc : LC wr root (aes[m % j] :: (aes.drop (m % j + 1) ++ aes.take (m % j))) (IL l :: ((L.map fun x => x.1).drop (m % j + 1) ++ (L.map fun x => x.1).take (m % j)).map IL) := by
            have := HST.out.lc
            rw [e1, e3] at this
            exact this
          have HLC := Lib.hid hlc
          have HYS : Hid (ys = (dealTo j xs m).getD (m % j) []) := by
            show ys = _
            rw [← HLE.out, List.getD_eq_getElem?_getD, List.getElem?_map, HL.out]; rfl
          clear hL hLt e1 e2 e3 e4 e5 hlc
          generalize aes.drop (m % j + 1) ++ aes.take (m % j) = ar at *
          generalize (L.map fun x => x.1).drop (m % j + 1) ++ (L.map fun x => x.1).take (m % j) = lr at *
          generalize aes[m % j] = q at *
          have HHL := Lib.hid (HST.out.hands.lc _ (List.mem_of_getElem? HL.out))
          have HSEP : Hid (∀ b ∈ root :: q :: ar, b ∉ l :: es) := fun b hb hx => by
            have hb2 : b ∈ root :: aes := by
              have h1 : b ∈ root :: rot aes (m % j + 1) := by
                rw [HE2.out]
                simp only [List.mem_cons, List.mem_append] at hb ⊢
                rcases hb with h | h | h
                · exact .inl h
                · exact .inr (.inr (by simp [h]))
                · exact .inr (.inl h)
              rcases List.mem_cons.1 h1 with h2 | h2
              · simp [h2]
              · exact List.mem_cons_of_mem _ ((mem_rot' _ _ _).1 h2)
            exact HST.out.sep b hb2 _ (List.mem_of_getElem? HL.out) hx
          have hc3 : wr.cell? ⟨q, 3, none⟩ = some (IL l) := HLC.out.cell3 (i := 0) (by simp)
          have hta2 := run_assert_list l
          have hesl : es.length ≤ 4611686018427387904 := by
            have h1 := HHL.out.len_eq
            simp only [List.length_map] at h1
            have h2 := dealTo_sum j hh1 xs m
            have h3 : ys.length ≤ ((dealTo j xs m).map List.length).sum := by
              rw [← HLE.out]
              refine le_sum (List.mem_map.2 ⟨ys, List.mem_map.2 ⟨(l, es, ys), List.mem_of_getElem? HL.out, rfl⟩, rfl⟩)
            omega
          go_wp2_with fail
          refine (front_some HLC.out (by simp)).mono ?_
          rintro e w2 ⟨rfl, rfl⟩
          simp only [List.getElem_cons_zero]
          go_wp2_with fail
          refine (pushBack_lc HHL.out _ _ hesl).mono ?_
          rintro e w3 ⟨rfl, h3, c3⟩
          have H3 := Lib.hid h3
          have C3 := Lib.hid c3
          have HLC3 := Lib.hid (HLC.out.chg c3 HSEP.out)
          clear h3 c3 hc3
          go_wp2_with fail
          refine (moveToBack_lc HLC3.out (i := 0) rfl rfl).mono ?_
          rintro e w4 ⟨rfl, h4, c4⟩
          have H4 : Hid (DealSt w w4 root aes (L.set (m % j) (l, es ++ [wr.heap.size], ys ++ [x])) (m % j + 1) (.slice A1 j c1)) := by
            refine HST.out.step HL.out (by rw [List.map_append]; exact H3.out) C3.out ?_ (c4.mono ?_)
            · rw [HE2.out, HE4.out, List.map_append]
              exact h4
            · intro b hb _
              rcases List.mem_cons.1 hb with h1 | h1
              · simp [h1]
              · refine List.mem_cons_of_mem _ ((mem_rot' aes (m % j + 1) b).1 ?_)
                rw [HE2.out]
                rcases List.mem_cons.1 h1 with h2 | h2
                · simp [h2]
                · simp [h2]
          clear h4 c4
          go_wp2
          go_roundw
          case rel =>
            refine ⟨m + 1, by omega, by go_num, L.set (m % j) (l, es ++ [wr.heap.size], ys ++ [x]), ?_, by rw [List.length_set]; exact HLJ.out, by rw [set_map, HLE.out, hDS.out, ← HYS.out]⟩
            rw [HMS.out]
            by_cases h : m % j + 1 = j
            · rw [if_pos h]
              have h5 := H4.out
              have e : (L.set (m % j) (l, es ++ [wr.heap.size], ys ++ [x])).length = m % j + 1 := by rw [List.length_set, HLJ.out, h]
              rw [← e] at h5
              exact h5.wrap
            · rw [if_neg h]; exact H4.out
          case measure => simp [intOf]; omega
        · obtain rfl : m = xs.length := by omega
          have HDE : Hid (dealOf xs k = L.map fun x => x.2.2) := by
            show _ = _
            rw [HD.out, HLE.out]; rfl
          have hsum := dealTo_sum j hh1 xs xs.length
          rw [← HLE.out] at hsum
          have HSUM := Lib.hid hsum
          clear hsum
          go_wp2
          go_loopw [12, 14, 56] (fun ov _ i ws => ∃ n : Nat, n ≤ j ∧ i = .int .i64 n ∧ (∃ us, OwnSS ws w.heap.size ov ((L.take n).map fun x => x.2.2) us) ∧ HandsL w ws L ∧ ws.ownsRow w.heap.size 39 1 (.slice A1 j c1) j (L.map fun x => P x.1) ∧ Bl w ws) (fun _ _ i _ => j - (intOf i).toNat)
          case atStart =>
            have hb := bl_alloc (bl_refl wr) (.cells #[] 22)
            refine ⟨0, Nat.zero_le _, rfl, ⟨[], ⟨own_base (own_empty _ _ _) HST.out.bl.size, fun k hk => absurd hk (by simp), fun i j a b hij hi hj => by simp at hi⟩⟩, HST.out.hands.bl hb, ?_, bl_trans HST.out.bl hb⟩
            have := own_bl HST.out.first hb
            rw [HLJ.out] at this
            exact this
          case round =>
            clear HST
            obtain ⟨n, hn, rfl, ⟨us, hss⟩, hhd, hfs, hbl⟩ := hrel
            have HSS := Lib.hid hss
            have HHD := Lib.hid hhd
            have HFS := Lib.hid hfs
            have HB := Lib.hid hbl
            clear hss hhd hfs hbl
            by_cases hlt : n < j
            · have hnL : n < L.length := by rw [HLJ.out]; exact hlt
              obtain ⟨A', c', e0, _, _, hA⟩ := own_open HFS.out
              injection e0 with e1 e2 e3
              subst e1 e3
              obtain ⟨g, rfl, _, _⟩ := hA (by omega)
              have hcell := own_cell HFS.out (k := n) (by omega)
              rw [List.getD_eq_getElem?_getD, List.getElem?_map, List.getElem?_eq_getElem hnL] at hcell
              simp only [Option.map_some, Option.getD_some] at hcell
              have HT := Lib.hid (List.take_succ_eq_append_getElem hnL)
              have HLN := Lib.hid (HHD.out.lc _ (List.getElem_mem hnL))
              have hyl : L[n].2.2.length ≤ xs.length := by
                have h1 := HSUM.out
                have h2 : L[n].2.2.length ≤ ((L.map fun x => x.2.2).map List.length).sum := le_sum (List.mem_map.2 ⟨_, List.mem_map.2 ⟨_, List.getElem_mem hnL, rfl⟩, rfl⟩)
                omega
              have HLEN : Hid (((L.take n).map fun x => x.2.2).length = n) := by
                show ((L.take n).map fun x => x.2.2).length = n
                rw [List.length_map, List.length_take]; omega
              clear hA e2
              generalize L[n] = t at *
              obtain ⟨l, es, ys⟩ := t
              simp only at hcell hyl
              go_wp2_with fail
              refine (values_lc _ HLN.out (by omega)).mono ?_
              rintro e w5 ⟨v5, rfl, o5, b5⟩
              obtain ⟨n5, A5, c5, hv5⟩ := ints_val (OwnI.ints o5)
              subst hv5
              have O5 := Lib.hid o5
              have B5 := Lib.hid b5
              have HSO := Lib.hid (own_bl HSS.out.own b5)
              clear o5 b5
              go_wp2_with (at_builtin; go_must (refine wpList_push w5 rfl (.tmp 60) (.tmp 63) _ rfl w.heap.size 22 i1 _ 24 Try.underlying25 hi1 hy0 hy1 hy2 rfl u12 _ us rfl HSO.out (.slice A5 n5 c5) rfl rfl rfl (by rw [HLEN.out]; omega) (by rw [HLEN.out]; omega) (bl_trans HB.out B5.out).size ?_); intro v6 w6 hown6 hchg6 hloc6)
              have HS6 := Lib.hid (HSS.out.snoc HB.out.size B5.out O5.out hown6 hchg6)
              have HB6 := Lib.hid (bl_own (bl_trans HB.out B5.out) HSO.out hchg6)
              have hh5 := HHD.out.bl B5.out
              have HH6 := Lib.hid (hh5.chg hchg6 (hh5.ne_own HSO.out (by decide) (by decide)))
              have hf5 := own_bl HFS.out B5.out
              have HF6 := Lib.hid (own_chg hf5 hchg6 (own_ne hf5 HSO.out (by decide)))
              clear hown6 hchg6 hloc6 hh5 hf5
              go_roundw
              case rel => exact ⟨n + 1, by omega, by go_num, ⟨_, by rw [HT.out, List.map_append]; exact HS6.out⟩, HH6.out, HF6.out, HB6.out⟩
              case measure => simp [intOf]; omega
            · obtain rfl : n = j := by omega
              rw [List.take_of_length_le (by rw [HLJ.out]; exact Nat.le_refl _)] at HSS
              go_wp2
              go_ret
              exact ⟨_, _, rfl, by rw [HDE.out]; exact HSS.out, HB.out⟩

end Go.Proofs.Ytgjackalcajmjaa
