/- The walk of SortList. -/
import Derived.Test.YtgjackalcajmjaaSort
import Derived.Test.YtgjackalcajmjaaListMove2
namespace Go.Proofs.Ytgjackalcajmjaa
open Go.RowKit

section
variable {w w' : World} {l : Nat} {es : List Nat} {vs : List Value}

/-- The element ahead of a place, or nil. -/
def pB (es : List Nat) : Nat → Value
  | 0 => .pointer none
  | j + 1 => pAt es j
theorem back_lc (h : LC w l es vs) : Calls Try.prog 50 #[P l] w fun r w' => r = .returned (pB es es.length) ∧ w = w' := by
  rcases Nat.eq_zero_or_pos es.length with h0 | h0
  · obtain rfl : es = [] := List.eq_nil_of_length_eq_zero h0
    exact back_none h
  · have := back_some h h0
    obtain ⟨n, hn⟩ : ∃ n, es.length = n + 1 := ⟨es.length - 1, by omega⟩
    simp only [hn, Nat.add_sub_cancel] at this
    rw [hn]
    show Calls _ _ _ _ fun r w' => r = .returned (pAt es n) ∧ w = w'
    rw [pAt_in (by omega)]
    exact this
theorem eprev_lc (h : LC w l es vs) {i : Nat} (hi : i < es.length) : Calls Try.prog 51 #[P es[i]] w fun r w' => r = .returned (pB es i) ∧ w = w' := by
  cases i with
  | zero => exact eprev_none h hi
  | succ i =>
    show Calls _ _ _ _ fun r w' => r = .returned (pAt es i) ∧ w = w'
    rw [pAt_in (by omega)]
    exact eprev_some h hi

/-- A list of the numbers xs whose blocks came since w. -/
def HoldsL (w wr : World) (l : Nat) (xs : List Int) : Prop := ∃ es, LC wr l es (xs.map I) ∧ (∀ b ∈ l :: es, w.heap.size ≤ b) ∧ Bl w wr

set_option maxHeartbeats 2000000 in
theorem SortList_impl (v : Value) (xs : List Int) (w : World) (hv : Ints w v xs) (hl : xs.length ≤ 17592186043904) : Calls Try.prog 21 #[v] w (NewInts w (sorted xs)) := by
  obtain ⟨A, c, rfl, hc, hm, hv⟩ := hv.open
  have HV := Lib.hid hv
  clear hv
  unfold maxLen at hm
  go_enter Try.func21, Try.ntmps21
  go_wp2_with fail
  refine (lnew_any _).mono ?_
  rintro e w1 ⟨rfl, h1, b1, _⟩
  have H1 : Hid (HoldsL w w1 w.heap.size []) := ⟨[], h1, by simp, b1⟩
  clear h1 b1
  generalize hroot : w.heap.size = root at *
  have HR := Lib.hid hroot
  clear hroot
  go_wp2
  go_loopw [5, 6, 10] (fun _ _ i wr => ∃ k : Nat, k ≤ xs.length ∧ i = .int .i64 k ∧ HoldsL w wr root (sorted (xs.take k))) (fun _ _ i _ => xs.length - (intOf i).toNat)
  case atStart => exact ⟨0, Nat.zero_le _, rfl, H1.out⟩
  case round =>
    obtain ⟨k, hk, rfl, hh⟩ := hrel
    have hsl := sorted_len (xs.take k)
    rw [List.length_take, Nat.min_eq_left hk] at hsl
    by_cases hlt : k < xs.length
    · obtain ⟨b, off, rfl, hc1⟩ := HV.out k hlt
      have HT := Lib.hid (sorted_take xs k hlt)
      generalize xs[k] = x at *
      generalize sorted (xs.take k) = l at *
      have HL := Lib.hid hsl
      clear hsl
      obtain ⟨es, hlc, hge, hbl⟩ := hh
      have r1 := (hbl.cell (World.block_lt_of_cell? _ _ hc1)).trans hc1
      clear hc1
      have hel : es.length = l.length := by rw [hlc.len_eq]; simp
      have HEL := Lib.hid hel
      have HLC := Lib.hid hlc
      have HG := Lib.hid hge
      have HB := Lib.hid hbl
      clear hlc hge hbl hel
      go_wp2_with fail
      refine (back_lc HLC.out).mono ?_
      rintro e w2 ⟨rfl, rfl⟩
      go_wp2
      obtain ⟨wo, rfl⟩ : ∃ wo : World, wo = wr := ⟨_, rfl⟩
      go_loopg [6] es.length (fun j r ws => j ≤ es.length ∧ r = pB es j ∧ posB l x j = posB l x l.length ∧ wo = ws)
      case atStart => exact ⟨Nat.le_refl _, rfl, by rw [HEL.out], rfl⟩
      case round =>
        obtain ⟨hj, rfl, hpb, rfl⟩ := hrel
        by_cases hj0 : gk = 0
        · subst hj0
          have hp0 : posB l x 0 = 0 := rfl
          rw [hp0] at hpb
          have HPB : Hid ((0 : Nat) = posB l x l.length) := hpb
          clear hpb hp0
          have hp1 : pB es 0 = .pointer none := rfl
          rw [hp1]
          go_wp2_with fail
          refine (pushFront_lc HLC.out _ _ (by have := HEL.out; have := HL.out; omega)).mono ?_
          rintro e w3 ⟨rfl, h3, c3⟩
          have H3 : Hid (HoldsL w w3 root (ins l 0 x)) := ⟨_, h3, fun b hb => by
            rcases List.mem_cons.1 hb with rfl | hb
            · exact HG.out _ (by simp)
            · rcases List.mem_cons.1 hb with rfl | hb
              · exact HB.out.size
              · exact HG.out b (by simp [hb]), bl_chg HB.out c3 HG.out⟩
          clear h3 c3
          go_wp2
          go_roundw
          case rel => exact ⟨k + 1, by omega, by go_num, by rw [HT.out]; unfold insS; rw [← HPB.out]; exact H3.out⟩
          case measure => simp [intOf]; omega
        · obtain ⟨i, rfl⟩ : ∃ i, gk = i + 1 := ⟨gk - 1, by omega⟩
          have hil : i < l.length := by have := HEL.out; omega
          have hie : i < es.length := by omega
          have hp1 : pB es (i + 1) = P es[i] := pAt_in hie
          rw [hp1]
          have c2 := HLC.out.cell3i hie hil
          have hta := run_assert_int l[i]
          by_cases hgt : x < l[i]
          · rw [posB_go hil hgt] at hpb
            have HPB := Lib.hid hpb
            have HN := Lib.hid (eprev_lc HLC.out hie)
            clear hpb hp1
            generalize l[i] = y at *
            generalize es[i] = q at *
            go_wp2_with fail
            refine HN.out.mono ?_
            rintro e w3 ⟨rfl, rfl⟩
            go_wp2
            go_roundg i
            case rel => exact ⟨by omega, rfl, HPB.out, rfl⟩
            case measure => omega
          · rw [posB_stop hil hgt] at hpb
            have HPB := Lib.hid hpb
            have HN := Lib.hid (insertAfter_lc HLC.out 3 (.int .i64 x) (by have := HEL.out; have := HL.out; omega) hie)
            clear hpb hp1
            generalize l[i] = y at *
            generalize es[i] = q at *
            go_wp2_with fail
            refine HN.out.mono ?_
            rintro e w3 ⟨rfl, h3, c3⟩
            have H3 : Hid (HoldsL w w3 root (ins l (i + 1) x)) := by
              have h4 : LC w3 root (es.take (i + 1) ++ wo.heap.size :: es.drop (i + 1)) ((ins l (i + 1) x).map I) := by
                unfold ins; rw [List.map_append, List.map_cons, List.map_take, List.map_drop]; exact h3
              refine ⟨_, h4, fun b hb => ?_, bl_chg HB.out c3 HG.out⟩
              · rcases List.mem_cons.1 hb with rfl | hb
                · exact HG.out _ (by simp)
                · rcases List.mem_append.1 hb with hb | hb
                  · exact HG.out b (by simp [List.mem_of_mem_take hb])
                  · rcases List.mem_cons.1 hb with rfl | hb
                    · exact HB.out.size
                    · exact HG.out b (by simp [List.mem_of_mem_drop hb])
            clear h3 c3
            go_wp2
            go_roundw
            case rel => exact ⟨k + 1, by omega, by go_num, by rw [HT.out]; unfold insS; rw [← HPB.out]; exact H3.out⟩
            case measure => simp [intOf]; omega
    · obtain rfl : k = xs.length := by omega
      rw [List.take_length] at hh
      have hll : (sorted xs).length ≤ 17592186043904 := by rw [sorted_len]; exact hl
      clear hsl
      generalize sorted xs = l at *
      obtain ⟨es, hlc, hge, hbl⟩ := hh
      have HLC := Lib.hid hlc
      have HB := Lib.hid hbl
      clear hlc hge hbl
      go_wp2_with fail
      refine (values_lc l HLC.out hll).mono ?_
      rintro e w3 ⟨v3, rfl, o3, b3⟩
      have O3 := Lib.hid (own_base o3 HB.out.size)
      have B3 := Lib.hid (bl_trans HB.out b3)
      clear o3 b3
      go_wp2
      go_ret
      exact ⟨_, rfl, O3.out, B3.out⟩
end

end Go.Proofs.Ytgjackalcajmjaa
