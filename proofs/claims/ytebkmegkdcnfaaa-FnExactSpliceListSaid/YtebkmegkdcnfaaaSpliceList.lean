/- The walk of SpliceList over a list. -/
import Derived.Test.YtebkmegkdcnfaaaSplicePure
import Derived.Test.YtebkmegkdcnfaaaTurnList
import Derived.Test.YtebkmegkdcnfaaaCircleList
namespace Go.Proofs.Ytebkmegkdcnfaaa
open Go.RowKit

theorem sp_step (y : List Int) (t : Nat) (ht : 1 + t < y.length) : ∃ y0 x zs, spLeft y t = y0 :: x :: zs ∧ spLeft y (t + 1) = y0 :: zs ∧ spTaken y (t + 1) = spTaken y t ++ [x] := by
  cases y with
  | nil => simp at ht
  | cons y0 ys =>
    have h1 : t < ys.length := by simp at ht; omega
    refine ⟨y0, ys[t], ys.drop (t + 1), ?_, ?_, ?_⟩
    · unfold spLeft
      rw [Nat.add_comm 1 t, List.drop_succ_cons, List.drop_eq_getElem_cons h1]; rfl
    · unfold spLeft
      rw [show 1 + (t + 1) = (t + 1) + 1 by omega, List.drop_succ_cons]; rfl
    · unfold spTaken
      rw [List.drop_succ_cons, List.drop_zero, List.take_succ_eq_append_getElem h1]
theorem sp_zero (y : List Int) : spLeft y 0 = y ∧ spTaken y 0 = [] := by
  unfold spLeft spTaken
  exact ⟨List.take_append_drop 1 y, rfl⟩
theorem spTaken_len (y : List Int) (t : Nat) (ht : t < y.length) : (spTaken y t).length = t := by
  unfold spTaken; rw [List.length_take, List.length_drop]; omega
theorem spLeft_len (y : List Int) (t : Nat) (ht : t < y.length) : (spLeft y t).length = y.length - t := by
  unfold spLeft; rw [List.length_append, List.length_take, List.length_drop]; omega

set_option maxRecDepth 100000 in
set_option maxHeartbeats 2000000 in
theorem SpliceList_impl (v : Value) (xs : List Int) (i k : Int) (w : World) (hv : Ints w v xs) (hl : xs.length ≤ 17592186043904) :
    Calls Try.prog 37 #[v, .int .i64 i, .int .i64 k] w (New2 w (leftOf xs i k) (takenOf xs i k)) := by
  have HV := Lib.hid hv
  clear hv
  obtain ⟨i0, hi, hz0, hz1, hz2⟩ := info_parts intInfo
  have HLE : Hid (leftOf xs i k = spLeft (turnOf xs i) (ix k xs.length)) := rfl
  have HTA : Hid (takenOf xs i k = spTaken (turnOf xs i) (ix k xs.length)) := rfl
  have HYL := Lib.hid (turnOf_len xs i)
  go_enter Try.func37, Try.ntmps37
  go_wp2_with fail
  refine (TurnList_impl v xs i _ HV.out hl).mono ?_
  rintro e w1 ⟨v1, rfl, o1, b1⟩
  generalize turnOf xs i = y at *
  have O1 := Lib.hid (OwnI.ints o1)
  have B1 := Lib.hid b1
  clear o1 b1
  go_wp2_with fail
  refine (listOf_any v1 y _ O1.out (by rw [HYL.out]; exact hl)).mono ?_
  rintro e w2 ⟨l, es, rfl, h2, g2, b2⟩
  have H2 : Hid (HoldsL w w2 l y) := ⟨es, h2, fun b hb => Nat.le_trans B1.out.size (g2 b hb), bl_trans B1.out b2⟩
  have hel : es.length = y.length := by rw [h2.len_eq]; simp
  rw [HYL.out] at hel
  have HLC := Lib.hid h2
  clear h2 g2 b2
  obtain ⟨n, hn⟩ : ∃ n, xs.length = n := ⟨_, rfl⟩
  rw [hn] at hl hel HYL HLE HTA
  clear hn
  go_wp2_with fail
  have HLE2 : Hid (LC (w2.alloc (.cells #[] 3)) l es (y.map I)) := HLC.out.bl (bl_alloc (bl_refl _) _)
  refine (llen_lc HLE2.out).mono ?_
  rintro e w3 ⟨rfl, rfl⟩
  rw [hel]
  rcases Nat.eq_zero_or_pos n with h0 | h0
  · subst h0
    obtain rfl : y = [] := List.eq_nil_of_length_eq_zero HYL.out
    have HLX := HLE2
    have sn : ∀ m, spLeft [] m = [] ∧ spTaken [] m = [] := fun m => by simp [spLeft, spTaken]
    rw [(sn _).1] at HLE
    rw [(sn _).2] at HTA
    clear sn
    have HYB : Hid (([] : List Int).length = 0) := rfl
    have BX : Hid (Bl w (w2.alloc (.cells #[] 3))) := bl_alloc H2.out.choose_spec.2.2 _
    have OX : Hid (OwnI (w2.alloc (.cells #[] 3)) w.heap.size (.slice (some ⟨w2.heap.size, 0, none⟩) 0 0) []) := own_base (own_empty w2 _ _) H2.out.choose_spec.2.2.size
    go_wp2_with fail
    refine (values_lc [] HLX.out (by simp)).mono ?_
    rintro e w5 ⟨v5, rfl, o5, b5⟩
    have HS5 : Hid (∀ g, v5.ownBlock = some g → ¬ (Value.slice (some ⟨w2.heap.size, 0, none⟩) 0 0).ownBlock = some g) := fun g h1 h2 => by
      have h3 := (own_lt o5 g h1).1
      have h4 := (own_lt OX.out g h2).2
      omega
    have O5 := Lib.hid (own_base o5 BX.out.size)
    have OX5 := Lib.hid (own_bl OX.out b5)
    have B5 := Lib.hid (bl_trans BX.out b5)
    clear o5 b5
    go_wp2
    go_ret2
    exact ⟨_, _, rfl, by rw [HLE.out]; exact O5.out, by rw [HTA.out]; exact OX5.out, HS5.out, B5.out⟩
  · have hk := ix_lt k h0
    go_wp2_with fail
    refine (llen_lc HLE2.out).mono ?_
    rintro e w3 ⟨rfl, rfl⟩
    rw [hel]
    go_wp2_with fail
    refine (at_ix k n _ h0 (by omega)).mono ?_
    rintro e w3 ⟨rfl, rfl⟩
    generalize ix k n = K at *
    go_wp2
    go_loopw [9, 10] (fun ov i wr => ∃ t : Nat, t ≤ K ∧ i = .int .i64 ((K - t : Nat) : Int) ∧ HoldsL w wr l (spLeft y t) ∧ OwnI wr w.heap.size ov (spTaken y t)) (fun _ i _ => (intOf i).toNat)
    case atStart =>
      obtain ⟨s1, s2⟩ := sp_zero y
      refine ⟨0, Nat.zero_le _, rfl, ?_, by rw [s2]; exact own_base (own_empty w2 _ _) H2.out.choose_spec.2.2.size⟩
      rw [s1]
      obtain ⟨es', x1, x2, x3⟩ := H2.out
      exact ⟨es', x1.bl (bl_alloc (bl_refl _) _), x2, bl_alloc x3 _⟩
    case round =>
      clear HLC HLE2 H2
      obtain ⟨t, ht, rfl, hh, hown⟩ := hrel
      have HH := Lib.hid hh
      have HO := Lib.hid hown
      clear hh hown
      have HTL : Hid ((spTaken y t).length = t) := spTaken_len y t (by rw [HYL.out]; omega)
      have HYB : Hid ((spLeft y t).length = n - t) := by
        show (spLeft y t).length = n - t
        rw [spLeft_len y t (by rw [HYL.out]; omega), HYL.out]
      by_cases hlt : t < K
      · have hpos : (0 : Int) < ((K - t : Nat) : Int) := by omega
        obtain ⟨y0, x, zs, e1, e2, e3⟩ := sp_step y t (by rw [HYL.out]; omega)
        have HE2 := Lib.hid e2
        have HE3 := Lib.hid e3
        rw [e1] at HH HYB
        clear e1 e2 e3
        obtain ⟨es, hlc, hge, hbl⟩ := HH.out
        have hesl : es.length = zs.length + 2 := by rw [hlc.len_eq]; simp
        obtain ⟨f, q, es, rfl⟩ : ∃ f q es', es = f :: q :: es' := by
          match es, hesl with
          | f :: q :: es, _ => exact ⟨f, q, es, rfl⟩
        have hesb : (f :: q :: es).length ≤ 4611686018427387904 := by
          have := HYB.out
          simp only [List.length_cons] at this hesl ⊢
          omega
        have HLC := Lib.hid hlc
        have HGE := Lib.hid hge
        have HBL := Lib.hid hbl
        have hta := run_assert_int x
        clear hlc hge hbl hesl
        go_wp2_with fail
        refine (front_some HLC.out (by simp)).mono ?_
        rintro e w3 ⟨rfl, rfl⟩
        simp only [List.getElem_cons_zero]
        go_wp2_with fail
        have HNX := Lib.hid (enext_lc HLC.out (i := 0) (by simp))
        refine HNX.out.mono ?_
        rintro e w3 ⟨rfl, rfl⟩
        rw [pAt_in (show 0 + 1 < (f :: q :: es).length by simp)]
        simp only [Nat.zero_add, List.getElem_cons_succ, List.getElem_cons_zero]
        go_wp2_with fail
        refine (lremove_lc HLC.out hesb (i := 1) rfl rfl).mono ?_
        rintro e w4 ⟨rfl, h4, c4⟩
        have O4 := Lib.hid (HLC.out.own c4 HO.out (by decide) (by decide))
        have H4 : Hid (HoldsL w w4 l (y0 :: zs)) := by
          refine ⟨f :: es, h4, fun b hb => HGE.out b ?_, bl_chg HBL.out c4 HGE.out⟩
          simp only [List.mem_cons] at hb ⊢
          rcases hb with h | h | h
          · exact .inl h
          · exact .inr (.inl h)
          · exact .inr (.inr (.inr h))
        clear h4 c4
        go_wp2_with (at_builtin; go_must (refine wpList_push w4 rfl (.tmp 27) (.tmp 34) _ rfl w.heap.size 3 i0 _ 8 Try.underlying23 hi hz0 hz1 hz2 rfl u9 _ _ rfl O4.out (.int .i64 x) rfl rfl rfl (by rw [HTL.out]; omega) (by rw [HTL.out]; omega) H4.out.choose_spec.2.2.size ?_); intro v5 w5 hown5 hchg5 hloc5)
        have O5 := Lib.hid (OwnI.snoc hown5)
        have H5 : Hid (HoldsL w w5 l (y0 :: zs)) := by
          obtain ⟨es4, x1, x2, x3⟩ := H4.out
          exact ⟨es4, x1.chg hchg5 (fun b hb => x1.ne_own O4.out (by decide) (by decide) b hb), x2, bl_own x3 O4.out hchg5⟩
        clear hown5 hchg5 hloc5
        go_roundw
        case rel =>
          refine ⟨t + 1, by omega, ?_, by rw [HE2.out]; exact H5.out, by rw [HE3.out]; exact O5.out⟩
          rw [show ((K - (t + 1) : Nat) : Int) = ((K - t : Nat) : Int) - 1 by omega]
        case measure => simp [intOf]; omega
      · obtain rfl : t = K := by omega
        obtain ⟨es, hlc, hge, hbl⟩ := HH.out
        have HLX := Lib.hid hlc
        have BX := Lib.hid hbl
        have OX := HO
        clear hlc hge hbl HO HH
        rw [Nat.sub_self]
        go_wp2_with fail
        refine (values_lc _ HLX.out (by rw [HYB.out]; omega)).mono ?_
        rintro e w5 ⟨v5, rfl, o5, b5⟩
        have HS5 : Hid (∀ g, v5.ownBlock = some g → ¬ u9.ownBlock = some g) := fun g h1 h2 => by
          have h3 := (own_lt o5 g h1).1
          have h4 := (own_lt OX.out g h2).2
          omega
        have O5 := Lib.hid (own_base o5 BX.out.size)
        have OX5 := Lib.hid (own_bl OX.out b5)
        have B5 := Lib.hid (bl_trans BX.out b5)
        clear o5 b5
        go_wp2
        go_ret2
        exact ⟨_, _, rfl, by rw [HLE.out]; exact O5.out, by rw [HTA.out]; exact OX5.out, HS5.out, B5.out⟩

end Go.Proofs.Ytebkmegkdcnfaaa
