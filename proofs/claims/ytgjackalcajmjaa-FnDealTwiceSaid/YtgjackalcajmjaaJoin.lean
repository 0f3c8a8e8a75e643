/- The walks of JoinList: of the reference, and over lists. -/
import Derived.Test.YtgjackalcajmjaaJoinSpec
import Derived.Test.YtgjackalcajmjaaPushList
namespace Go.Proofs.Ytgjackalcajmjaa
open Go.RowKit

/-- Lists of ints, told one by one: head, elements, values. -/
def LLs (w : World) (L : List (Nat × List Nat × List Int)) : Prop := ∀ t ∈ L, LC w t.1 t.2.1 (t.2.2.map I)
/-- Their blocks. -/
def lblocks (L : List (Nat × List Nat × List Int)) (b : Nat) : Prop := ∃ t ∈ L, b ∈ t.1 :: t.2.1
theorem LLs.chg {S : Nat → Prop} {w w' : World} {L : List (Nat × List Nat × List Int)} (h : LLs w L) (hb : Chg S w w') (hs : ∀ b, lblocks L b → ¬ S b) : LLs w' L := fun t ht => (h t ht).chg hb fun b hb' => hs b ⟨t, ht, hb'⟩
theorem LLs.bl {w w' : World} {L : List (Nat × List Nat × List Int)} (h : LLs w L) (hb : Bl w w') : LLs w' L := fun t ht => (h t ht).bl hb
theorem LLs.lt {w : World} {L : List (Nat × List Nat × List Int)} (h : LLs w L) {b : Nat} (hb : lblocks L b) : b < w.heap.size := by
  obtain ⟨t, ht, hb'⟩ := hb; exact (h t ht).lt hb'

/-- A list of lists, all of it since w. -/
structure AllOf (w wr : World) (all : Nat) (aes : List Nat) (L : List (Nat × List Nat × List Int)) : Prop where
  lc : LC wr all aes (L.map fun t => IL t.1)
  lls : LLs wr L
  sep : ∀ b, lblocks L b → b ∉ all :: aes
  ge : ∀ b, (b ∈ all :: aes ∨ lblocks L b) → w.heap.size ≤ b
  bl : Bl w wr

theorem AllOf.push {w wr w1 w2 : World} {all : Nat} {aes : List Nat} {L : List (Nat × List Nat × List Int)} (h : AllOf w wr all aes L) {l : Nat} {es : List Nat} {xs : List Int}
    (hl : LC w1 l es (xs.map I)) (hge : ∀ b ∈ l :: es, wr.heap.size ≤ b) (hb : Bl wr w1) (h2 : LC w2 all (aes ++ [w1.heap.size]) ((L.map fun t => IL t.1) ++ [IL l])) (hc : Chg (· ∈ all :: aes) w1 w2) :
    AllOf w w2 all (aes ++ [w1.heap.size]) (L ++ [(l, es, xs)]) := by
  have hlb : ∀ b, lblocks (L ++ [(l, es, xs)]) b → lblocks L b ∨ b ∈ l :: es := by
    rintro b ⟨t, ht, hbt⟩
    rcases List.mem_append.1 ht with ht | ht
    · exact .inl ⟨t, ht, hbt⟩
    · simp at ht; subst ht; exact .inr hbt
  have hmem : ∀ b, b ∈ all :: (aes ++ [w1.heap.size]) → b ∈ all :: aes ∨ b = w1.heap.size := by
    intro b hb'
    simp only [List.mem_cons, List.mem_append] at hb' ⊢
    rcases hb' with h | h | h
    · exact .inl (.inl h)
    · exact .inl (.inr h)
    · exact .inr (by simpa using h)
  have hold : ∀ b ∈ l :: es, b ∉ all :: aes := fun b hb' hx => by have := hge b hb'; have := h.lc.lt hx; omega
  refine ⟨by rw [List.map_append]; exact h2, fun t ht => ?_, fun b hb' hx => ?_, fun b hb' => ?_, ?_⟩
  · rcases List.mem_append.1 ht with ht | ht
    · exact ((h.lls t ht).bl hb).chg hc fun b hb' => h.sep b ⟨t, ht, hb'⟩
    · simp at ht; subst ht
      exact hl.chg hc hold
  · rcases hmem b hx with hx | hx
    · rcases hlb b hb' with hb' | hb'
      · exact h.sep b hb' hx
      · exact hold b hb' hx
    · subst hx
      rcases hlb _ hb' with hb' | hb'
      · have := (h.lls.bl hb).lt hb'; omega
      · have := hl.lt hb'; omega
  · rcases hb' with hb' | hb'
    · rcases hmem b hb' with hb' | hb'
      · exact h.ge b (.inl hb')
      · rw [hb']; exact Nat.le_trans h.bl.size hb.size
    · rcases hlb b hb' with hb' | hb'
      · exact h.ge b (.inr hb')
      · exact Nat.le_trans h.bl.size (hge b hb')
  · exact bl_chg (bl_trans h.bl hb) hc fun i hi => h.ge i (.inl hi)

set_option maxHeartbeats 2000000 in
theorem JoinList_impl (v : Value) (rows : List (List Int)) (w : World) (hv : Rowss w v rows) (hl : sumLen rows ≤ 17592186043904) (hr : rows.length ≤ 17592186043904) :
    Calls Try.prog 18 #[v] w (NewInts w rows.flatten) := by
  obtain ⟨A, c, rfl, hc, hm, hv⟩ := hv.open
  have HV := Lib.hid hv
  clear hv
  unfold maxLen at hm
  go_enter Try.func18, Try.ntmps18
  go_wp2_with fail
  refine (lnew_any _).mono ?_
  rintro e w1 ⟨rfl, h1, b1, _⟩
  have H1 := Lib.hid h1
  have B1 := Lib.hid b1
  clear h1 b1
  generalize hroot : w.heap.size = root at *
  have HR := Lib.hid hroot
  clear hroot
  go_wp2
  go_loopw [5, 11] (fun _ i wr => ∃ k : Nat, k ≤ rows.length ∧ i = .int .i64 k ∧ ∃ aes L, AllOf w wr root aes L ∧ L.map (fun t => t.2.2) = rows.take k) (fun _ i _ => rows.length - (intOf i).toNat)
  case atStart => exact ⟨0, Nat.zero_le _, rfl, [], [], ⟨H1.out, fun t ht => (by cases ht), (by rintro b ⟨t, ht, _⟩; cases ht), (by rintro b (hb | ⟨t, ht, _⟩); (simp at hb; rw [hb, HR.out]; exact Nat.le_refl _); cases ht), B1.out⟩, rfl⟩
  case round =>
    obtain ⟨k, hk, rfl, aes, L, hall, hLr⟩ := hrel
    have HALL := Lib.hid hall
    have HLR := Lib.hid hLr
    have hLk : L.length = k := by have := congrArg List.length hLr; simp at this; omega
    have hak : aes.length = k := by rw [hall.lc.len_eq]; simpa using hLk
    have HAK := Lib.hid hak
    clear hall hLr hLk hak
    by_cases hlt : k < rows.length
    · obtain ⟨b, off, u, rfl, hc1, hu⟩ := HV.out k hlt
      have r1 := (HALL.out.bl.cell (World.block_lt_of_cell? _ _ hc1)).trans hc1
      have HU := Lib.hid (hu.bl HALL.out.bl)
      obtain ⟨A2, c2, hu2, _, _, _⟩ := hu.open
      subst hu2
      have HT := Lib.hid (List.take_succ_eq_append_getElem hlt)
      have hrk : rows[k].length ≤ sumLen rows := le_sum (List.mem_map.2 ⟨_, List.getElem_mem hlt, rfl⟩)
      clear hc1 hu
      generalize rows[k] = row at *
      go_wp2_with fail
      refine (listOf_any _ row _ HU.out (by omega)).mono ?_
      rintro e w2 ⟨l2, es2, rfl, h2, g2, b2⟩
      have H2 := Lib.hid h2
      have G2 := Lib.hid g2
      have B2 := Lib.hid b2
      clear h2 g2 b2
      go_wp2_with fail
      refine (pushBack_lc (HALL.out.lc.bl B2.out) _ _ (by rw [HAK.out]; omega)).mono ?_
      rintro e w3 ⟨rfl, h3, c3⟩
      have H3 := Lib.hid (HALL.out.push H2.out G2.out B2.out h3 c3)
      clear h3 c3
      go_wp2
      go_roundw
      case rel => exact ⟨k + 1, by omega, by go_num, _, _, H3.out, by rw [HT.out, List.map_append, HLR.out]; rfl⟩
      case measure => simp [intOf]; omega
    · obtain rfl : k = rows.length := by omega
      rw [List.take_length] at HLR
      go_wp2_with fail
      refine (lnew_any _).mono ?_
      rintro e w2 ⟨rfl, h2, b2, _⟩
      have H2 := Lib.hid h2
      have B2 := Lib.hid b2
      clear h2 b2
      generalize hlr : wr.heap.size = lr at *
      have HLRT := Lib.hid hlr
      clear hlr
      go_wp2_with fail
      refine (front_lc (HALL.out.lc.bl B2.out)).mono ?_
      rintro e w3 ⟨rfl, rfl⟩
      obtain ⟨wo, rfl⟩ : ∃ wo : World, wo = wr := ⟨_, rfl⟩
      go_wp2
      go_loopg [7] aes.length (fun g p ws => ∃ j, j + g = aes.length ∧ p = pAt aes j ∧ ∃ es, LC ws lr es ((rows.take j).flatten.map I) ∧ (∀ b ∈ lr :: es, wo.heap.size ≤ b) ∧ Bl wo ws)
      case atStart => exact ⟨0, by omega, rfl, [], H2.out, by simp [HLRT.out], B2.out⟩
      case round =>
        obtain ⟨j, hj, rfl, es, hlc, hge, hbl⟩ := hrel
        have HLC := Lib.hid hlc
        have HGE := Lib.hid hge
        have HBL := Lib.hid hbl
        have HJ := Lib.hid hj
        clear hlc hge hbl hj
        by_cases hlt : j < aes.length
        · have hjr : j < rows.length := by rw [← HAK.out]; exact hlt
          have hjL : j < L.length := by have := congrArg List.length HLR.out; simp at this; omega
          have hlcw := HALL.out.lc.bl HBL.out
          have c3 : wr.cell? ⟨aes[j], 3, none⟩ = some (IL L[j].1) := by rw [hlcw.cell3 hlt]; simp
          have hta := run_assert_list L[j].1
          have HLJ := Lib.hid ((HALL.out.lls _ (List.getElem_mem hjL)).bl HBL.out)
          have hxs : L[j].2.2 = rows[j] := by
            have h1 : (L.map (fun t => t.2.2))[j]'(by simp; exact hjL) = rows[j] := by simp only [HLR.out]
            simpa using h1
          have hdis : ∀ b ∈ L[j].1 :: L[j].2.1, b ∉ lr :: es := fun b hb hx => by
            have h1 := HGE.out b hx
            have h2 := (HALL.out.lls _ (List.getElem_mem hjL)).lt hb
            omega
          have HDIS := Lib.hid hdis
          have HXS := Lib.hid hxs
          have HF := Lib.hid (flatten_take rows j hjr)
          have hsz : es.length + L[j].2.2.length ≤ 4611686018427387904 := by
            have h1 : es.length = sumLen (rows.take j) := by rw [HLC.out.len_eq, List.length_map, flatten_len]
            have h3 := sumLen_take rows j hjr
            have h4 := sumLen_take_le rows (j + 1)
            rw [hxs]
            omega
          have HNX := Lib.hid (fun (w5 : World) (hb : Bl wo w5) => enext_lc (HALL.out.lc.bl hb) hlt)
          rw [pAt_in hlt]
          clear hlcw hxs hdis
          generalize L[j] = t at *
          generalize aes[j] = q at *
          go_wp2_with fail
          refine (pushBackList_lc HLC.out HLJ.out HDIS.out hsz).mono ?_
          rintro e w4 ⟨rfl, ns, h4, g4, c4⟩
          have H4 := Lib.hid h4
          have HG4 : Hid (∀ b ∈ lr :: (es ++ ns), wo.heap.size ≤ b) := fun b hb => by
            rcases List.mem_cons.1 hb with rfl | hb
            · exact HGE.out b (by simp)
            · rcases List.mem_append.1 hb with hb | hb
              · exact HGE.out b (by simp [hb])
              · exact Nat.le_trans HBL.out.size (g4 b hb)
          have HB4 := Lib.hid (bl_chg HBL.out c4 HGE.out)
          clear h4 g4 c4
          go_wp2_with fail
          refine (HNX.out _ HB4.out).mono ?_
          rintro e w5 ⟨rfl, rfl⟩
          go_wp2
          go_roundg (aes.length - (j + 1))
          case rel => exact ⟨j + 1, by omega, rfl, _, by rw [HF.out, List.map_append, ← HXS.out]; exact H4.out, HG4.out, HB4.out⟩
          case measure => have := HJ.out; omega
        · rw [pAt_out hlt]
          have hje : rows.take j = rows := List.take_of_length_le (by have := HAK.out; omega)
          rw [hje] at HLC
          clear hje
          go_wp2_with fail
          refine (values_lc _ HLC.out (by rw [flatten_len]; exact hl)).mono ?_
          rintro e w4 ⟨v4, rfl, o4, b4⟩
          have O4 := Lib.hid (own_base o4 (Nat.le_trans HALL.out.bl.size HBL.out.size))
          have B4 := Lib.hid (bl_trans (bl_trans HALL.out.bl HBL.out) b4)
          clear o4 b4
          go_wp2
          go_ret
          exact ⟨_, rfl, O4.out, B4.out⟩

end Go.Proofs.Ytgjackalcajmjaa
