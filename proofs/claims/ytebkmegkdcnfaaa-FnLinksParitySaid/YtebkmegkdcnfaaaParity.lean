/- FnLinksParity returns true: the walk of the law. -/
import Derived.Test.YtebkmegkdcnfaaaParPure
namespace Go.Proofs.Ytebkmegkdcnfaaa
open Go.RowKit

theorem pcells_take (ps : List (Int × Int)) (k : Nat) : pcells (ps.take k) = (pcells ps).take (k * 2) := by
  induction ps generalizing k with
  | nil => simp [pcells]
  | cons p ps ih =>
    cases k with
    | zero => simp [pcells]
    | succ k => rw [Nat.succ_mul]; simp [pcells, ih]
theorem Prs.take {w : World} {A : Option Addr} {n c : Nat} {ps : List (Int × Int)} (h : Prs w (.slice A n c) ps) (k : Nat) (hk : k ≤ ps.length) : Prs w (.slice A k c) (ps.take k) := by
  obtain ⟨h1, A', c', e, h2, h3, h4⟩ := h
  simp only [Value.slice.injEq] at e
  obtain ⟨rfl, rfl, rfl⟩ := e
  have hl : (ps.take k).length = k := by rw [List.length_take]; omega
  refine ⟨by rw [pcells_len], A, c, by rw [hl], by rw [hl]; omega, h3, fun hn => ?_⟩
  rw [hl] at hn
  obtain ⟨b, off, e, h5⟩ := h4 (by omega)
  refine ⟨b, off, e, fun j u hu => h5 j u ?_⟩
  rw [pcells_take, List.getElem?_take] at hu
  split at hu
  · exact hu
  · cases hu

set_option maxRecDepth 100000 in
set_option maxHeartbeats 4000000 in
theorem linksParity_any (a : Int) (u : Value) (ps : List (Int × Int)) (w : World) (hu : Prs w u ps) (hl : ps.length * 16 ≤ 140737488351232) :
    Calls Try.prog 7 #[.int .i64 a, u] w fun e w' => e = .returned (.bool true) ∧ Bl w w' := by
  have HU := Lib.hid hu
  obtain ⟨B, d, rfl, hd, hm2, hx⟩ := hu.open
  clear hu hx
  unfold maxLen at hm2
  have hN := ix_lt a (n := 200) (by omega)
  generalize hNN : ix a 200 = N at *
  have HN := Lib.hid hNN
  clear hNN
  go_enter Try.func7, Try.ntmps7
  go_wp2_with fail
  refine (At_ix a 200 _ (by omega) (by omega)).mono ?_
  rintro e w1 ⟨rfl, rfl⟩
  rw [HN.out]
  go_wp2
  go_loopw [6, 7, 13] (fun t _ i wr => ∃ k : Nat, k ≤ ps.length ∧ i = .int .i64 k ∧ t = .int .i64 (changesTo N ps k) ∧ Bl w1 wr) (fun _ _ i _ => ps.length - (intOf i).toNat)
  case atStart => exact ⟨0, Nat.zero_le _, rfl, rfl, bl_refl _⟩
  case round =>
    obtain ⟨k, hk, rfl, rfl, hbl⟩ := hrel
    have HB := Lib.hid hbl
    clear hbl
    have hch := changesTo_le N ps k
    by_cases hlt : k < ps.length
    · have HT1 := Lib.hid (Prs.take (HU.out.bl HB.out) k (by omega))
      have HT2 := Lib.hid (Prs.take (HU.out.bl HB.out) (k + 1) (by omega))
      have HC : Hid (changesTo N ps (k + 1) = changesTo N ps k + if linksOf N (ps.take k) = linksOf N (ps.take (k + 1)) then 0 else 1) := rfl
      generalize ps.take k = p1 at *
      generalize ps.take (k + 1) = p2 at *
      have hk1 : IntKind.i64.wrap ((k : Int) + 1) = (k : Int) + 1 := IntWalk.i64_in _ (by omega)
      have hk2 : ((k : Int) + 1).toNat = k + 1 := by omega
      have hk3 : (0 : Int) ≤ (k : Int) + 1 := by omega
      have hk4 : (k : Int) + 1 ≤ (d : Int) := by omega
      have hk5 : (k : Int) ≤ (d : Int) := by omega
      go_wp2
      go_cut [28] (fun s28 wx => s28 = .bool (!decide (linksOf N p1 = linksOf N p2)) ∧ Bl w1 wx)
      case first =>
        go_region_law (first
          | (go_simp
             go_at_call 28
             with_reducible refine (Links_impl a (.slice B k d) p1 _ (Prs.bl HT1.out ?_)).mono ?_
             · with_reducible exact bl_drew (bl_refl wr)
             rintro e w2 ⟨v2, rfl, o2, b2⟩
             rw [HN.out] at o2
             have b12 := bl_trans (bl_drew (bl_refl wr)) b2
             clear b2)
          | (go_simp
             go_at_call 28
             with_reducible refine (Links_impl a (.slice B (k + 1) d) p2 _ (Prs.bl HT2.out b12)).mono ?_
             rintro e w3 ⟨v3, rfl, o3, b3⟩
             rw [HN.out] at o3
             have b13 := bl_trans b12 b3
             have O2 := OwnI.ints (own_bl o2 b3)
             clear b3 o2)
          | (go_simp
             go_at_call 16
             refine (same_any v2 v3 _ _ _ O2 (OwnI.ints o3)).mono ?_
             rintro e w4 ⟨rfl, b4⟩
             have B4 := Lib.hid (bl_trans HB.out (bl_trans b13 b4))
             clear b13 b4 o3 O2 b12)
          | (trace_state; fail))
        all_goals (go_wp2_with fail; go_meet; exact ⟨by simp, B4.out⟩)
      case rest =>
      obtain ⟨rfl, hbc⟩ := hcut
      have HBC := Lib.hid hbc
      clear hbc hk1 hk2 hk3 hk4 hk5 HT1 HT2
      generalize changesTo N ps k = t0 at *
      by_cases he : linksOf N p1 = linksOf N p2
      · rw [decide_eq_true he]
        rw [if_pos he] at HC
        clear he
        go_wp2
        go_roundw
        case rel => exact ⟨k + 1, by omega, by go_num, by rw [HC.out]; rfl, HBC.out⟩
        case measure => simp [intOf]; omega
      · rw [decide_eq_false he]
        rw [if_neg he] at HC
        clear he
        go_wp2
        go_roundw
        case rel => exact ⟨k + 1, by omega, by go_num, by rw [HC.out]; go_num, HBC.out⟩
        case measure => simp [intOf]; omega
    · obtain rfl : k = ps.length := by omega
      have hpar := parity_inv N ps ps.length (Nat.le_refl _)
      rw [List.take_length] at hpar
      have hpos := cycs_pos (linkAll_perm N ps)
      have hle := (cycsTo_inv (linkAll_perm N ps) N (Nat.le_refl _)).len_le
      have hle2 : (cycs N (linkAll N (id, id) ps).1).length ≤ N := hle
      have hCL : (cyclesOf N ps).length = (cycs N (linkAll N (id, id) ps).1).length := by unfold cyclesOf; rw [rowsI_len]
      rw [← hCL] at hpar hpos hle2
      clear hCL hle
      go_wp2_with fail
      refine (Cycles_impl a (.slice B ps.length d) ps _ (HU.out.bl HB.out)).mono ?_
      rintro e w2 ⟨v2, us, rfl, o2, b2⟩
      rw [HN.out] at o2
      obtain ⟨A2, c2, hv2, hc2, hm3, hx⟩ := own_open o2.own
      clear hx
      have B2 := Lib.hid (bl_trans HB.out b2)
      subst hv2
      unfold maxLen at hm3
      clear o2 b2
      generalize (cyclesOf N ps).length = R at *
      generalize changesTo N ps ps.length = C at *
      generalize ps.length = M at *
      have hdv : (((R : Int) + (C : Int) - (N : Int)).tmod 2 == 0) = true := by
        have h2 : (2 : Int) ∣ (R : Int) + (C : Int) - (N : Int) := by omega
        rw [Int.tmod_eq_zero_of_dvd h2]; rfl
      have HDV := Lib.hid hdv
      clear hdv
      go_wp2
      go_ret
      refine ⟨?_, B2.out⟩
      exact congrArg (fun x => Ending.returned (.bool x)) HDV.out

end Go.Proofs.Ytebkmegkdcnfaaa
