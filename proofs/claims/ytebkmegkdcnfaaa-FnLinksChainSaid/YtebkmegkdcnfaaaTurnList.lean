/- The walk of TurnList. -/
import Derived.Test.YtebkmegkdcnfaaaTurn
import Derived.Test.YtebkmegkdcnfaaaSortList
namespace Go.Proofs.Ytebkmegkdcnfaaa
open Go.RowKit

theorem rot_cons {α : Type} (xs : List α) (t : Nat) (ht : t < xs.length) : rot xs t = xs[t] :: (xs.drop (t + 1) ++ xs.take t) ∧ rot xs (t + 1) = (xs.drop (t + 1) ++ xs.take t) ++ [xs[t]] := by
  unfold rot
  constructor
  · rw [List.drop_eq_getElem_cons ht]; rfl
  · rw [List.take_succ_eq_append_getElem ht, List.append_assoc]

/-- The front one has gone to the back. -/
theorem holds_step {w wr w2 : World} {l : Nat} {es : List Nat} {e : Nat} {y : Int} {zs : List Int} (he : es[0]? = some e) (hge : ∀ b ∈ l :: es, w.heap.size ≤ b) (hb : Bl w wr) (h2 : LC w2 l (es.eraseIdx 0 ++ [e]) (zs.map I ++ [I y])) (c2 : Chg (· ∈ l :: es) wr w2) : HoldsL w w2 l (zs ++ [y]) := by
  refine ⟨_, by rw [List.map_append]; exact h2, fun b hb' => ?_, bl_chg hb c2 hge⟩
  rcases List.mem_cons.1 hb' with rfl | hb'
  · exact hge _ (by simp)
  · rcases List.mem_append.1 hb' with hb' | hb'
    · exact hge b (List.mem_cons_of_mem _ (List.mem_of_mem_eraseIdx hb'))
    · simp at hb'; subst hb'; exact hge _ (List.mem_cons_of_mem _ (List.mem_of_getElem? he))

set_option maxRecDepth 100000 in
set_option maxHeartbeats 1000000 in
theorem TurnList_impl (v : Value) (xs : List Int) (a : Int) (w : World) (hv : Ints w v xs) (hl : xs.length ≤ 17592186043904) :
    Calls Try.prog 68 #[v, .int .i64 a] w (NewInts w (turnOf xs a)) := by
  have HV := Lib.hid hv
  clear hv
  go_enter Try.func68, Try.ntmps68
  go_wp2_with fail
  refine (listOf_any v xs _ HV.out hl).mono ?_
  rintro e w1 ⟨l, es, rfl, h1, g1, b1⟩
  have hel : es.length = xs.length := by rw [h1.len_eq]; simp
  have HEL := Lib.hid hel
  have H1 := Lib.hid h1
  have G1 := Lib.hid g1
  have B1 := Lib.hid b1
  clear h1 g1 b1
  go_wp2_with fail
  refine (llen_lc H1.out).mono ?_
  rintro e w2 ⟨rfl, rfl⟩
  rw [hel]
  clear hel
  rcases Nat.eq_zero_or_pos xs.length with h0 | h0
  · obtain rfl : xs = [] := List.eq_nil_of_length_eq_zero h0
    simp only [List.length_nil]
    go_wp2_with fail
    refine (values_lc _ H1.out hl).mono ?_
    rintro e w3 ⟨v3, rfl, o3, b3⟩
    have O3 := Lib.hid (own_base o3 B1.out.size)
    have B3 := Lib.hid (bl_trans B1.out b3)
    clear o3 b3
    go_wp2
    go_ret
    exact ⟨_, rfl, by rw [turnOf_nil]; exact O3.out, B3.out⟩
  · have hfb := farOf_bd a
    have hk := ix_lt (farOf a) h0
    have HT : Hid (turnOf xs a = rot xs (ix (farOf a) xs.length)) := rfl
    go_wp2_with fail
    refine (far_any a _).mono ?_
    rintro e w2 ⟨rfl, rfl⟩
    go_wp2_with fail
    refine (llen_lc H1.out).mono ?_
    rintro e w2 ⟨rfl, rfl⟩
    rw [HEL.out]
    go_wp2_with fail
    refine (at_ix (farOf a) xs.length _ h0 (by omega)).mono ?_
    rintro e w2 ⟨rfl, rfl⟩
    generalize ix (farOf a) xs.length = K at *
    go_wp2
    go_loopw [6] (fun i wr => ∃ t : Nat, t ≤ K ∧ i = .int .i64 ((K - t : Nat) : Int) ∧ HoldsL w wr l (rot xs t)) (fun i _ => (intOf i).toNat)
    case atStart => exact ⟨0, Nat.zero_le _, rfl, es, by rw [show rot xs 0 = xs by simp [rot]]; exact H1.out, G1.out, B1.out⟩
    case round =>
      obtain ⟨t, ht, rfl, es, hlc, hge, hbl⟩ := hrel
      have HLC := Lib.hid hlc
      have HGE := Lib.hid hge
      have HBL := Lib.hid hbl
      clear hlc hge hbl
      by_cases hlt : t < K
      · have htx : t < xs.length := by omega
        obtain ⟨e1, e2⟩ := rot_cons xs t htx
        rw [e1] at HLC
        have HE2 := Lib.hid e2
        clear e1 e2
        generalize xs.drop (t + 1) ++ xs.take t = zs at *
        generalize xs[t] = y at *
        have hes : 0 < es.length := by rw [HLC.out.len_eq]; simp
        have HE := Lib.hid (List.getElem?_eq_getElem hes)
        have HF := Lib.hid (front_some HLC.out hes)
        generalize es[0] = q at *
        have hpos : (0 : Int) < ((K - t : Nat) : Int) := by omega
        go_wp2_with fail
        refine HF.out.mono ?_
        rintro e w3 ⟨rfl, rfl⟩
        go_wp2_with fail
        refine (moveToBack_lc HLC.out HE.out (v := I y) rfl).mono ?_
        rintro e w4 ⟨rfl, h4, c4⟩
        have H4 := Lib.hid (holds_step HE.out HGE.out HBL.out h4 c4)
        clear h4 c4
        go_wp2
        go_roundw
        case rel =>
          refine ⟨t + 1, by omega, ?_, by rw [HE2.out]; exact H4.out⟩
          rw [show ((K - (t + 1) : Nat) : Int) = ((K - t : Nat) : Int) - 1 by omega]
        case measure => simp [intOf]; omega
      · obtain rfl : t = K := by omega
        rw [Nat.sub_self]
        go_wp2_with fail
        refine (values_lc _ HLC.out (by rw [rot_len]; exact hl)).mono ?_
        rintro e w3 ⟨v3, rfl, o3, b3⟩
        have O3 := Lib.hid (own_base o3 HBL.out.size)
        have B3 := Lib.hid (bl_trans HBL.out b3)
        clear o3 b3
        go_wp2
        go_ret
        exact ⟨_, rfl, by rw [HT.out]; exact O3.out, B3.out⟩

end Go.Proofs.Ytebkmegkdcnfaaa
