/- The walk of PushBackList. -/
import Derived.Test.YtgjackalcajmjaaListOf
namespace Go.Proofs.Ytgjackalcajmjaa
open Go.RowKit

section
variable {w w' : World} {l : Nat} {es : List Nat} {vs : List Value}

theorem LC.cell1 (h : LC w l es vs) : w.cell? ⟨l, 1, none⟩ = some (P (l :: es)[es.length]) := by
  obtain ⟨nx, pv, val, hst, _⟩ := h
  rw [← hst.pv_head]
  exact (hst.lk l (by simp)).2

/-- insertValue behind the last one. -/
theorem insertLast_lc (h : LC w l es vs) (t : TypeId) (u : Value) (hl : es.length ≤ 4611686018427387904) :
    Calls Try.prog 60 #[P l, .iface t u, P (l :: es)[es.length]] w fun r w' => r = .returned (P w.heap.size) ∧ LC w' l (es ++ [w.heap.size]) (vs ++ [.iface t u]) ∧ Chg (· ∈ l :: es) w w' := by
  obtain ⟨nx, pv, val, hst, hv⟩ := h
  have hne : w.heap.size ∉ es := fun e => by have := hst.lt (b := w.heap.size) (by simp [e]); omega
  refine (insertValue_st hst t u _ _ (split_last l es) (es ++ [w.heap.size]) (split_last_snoc l es _) hl).mono fun r w' ⟨h1, h2, h3⟩ => ⟨h1, ⟨_, _, _, h2, ?_⟩, h3⟩
  rw [List.map_append, map_upd hne, hv]
  simp

theorem lazyInit_lc (h : LC w l es vs) : Calls Try.prog 59 #[P l] w fun e w' => e = .returned (.tuple #[]) ∧ w = w' := by
  obtain ⟨nx, pv, val, hst, _⟩ := h; exact lazyInit_st hst

/-- What PushBackList gives. -/
def Pushed (w : World) (l : Nat) (es : List Nat) (vs : List Value) (xs : List Int) (w' : World) : Prop :=
  ∃ ns : List Nat, LC w' l (es ++ ns) (vs ++ xs.map I) ∧ (∀ b ∈ ns, w.heap.size ≤ b) ∧ Chg (· ∈ l :: es) w w'

set_option maxHeartbeats 2000000 in
theorem pushBackList_lc (h : LC w l es vs) {o : Nat} {eso : List Nat} {xs : List Int} (ho : LC w o eso (xs.map I)) (hd : ∀ b ∈ o :: eso, b ∉ l :: es) (hl : es.length + xs.length ≤ 4611686018427387904) :
    Calls Try.prog 46 #[P l, P o] w fun r w' => r = .returned (.tuple #[]) ∧ Pushed w l es vs xs w' := by
  have H := Lib.hid h
  have HO := Lib.hid ho
  have HD := Lib.hid hd
  have hel : eso.length = xs.length := by rw [ho.len_eq]; simp
  have HEL := Lib.hid hel
  clear h ho hd hel
  go_enter Try.func46, Try.ntmps46
  go_wp2_with fail
  refine (lazyInit_lc H.out).mono ?_
  rintro e w1 ⟨rfl, rfl⟩
  go_wp2_with fail
  refine (llen_lc HO.out).mono ?_
  rintro e w1 ⟨rfl, rfl⟩
  go_wp2_with fail
  refine (front_lc HO.out).mono ?_
  rintro e w1 ⟨rfl, rfl⟩
  rw [HEL.out]
  go_wp2
  go_loopw [4, 5] (fun i p wr => ∃ k : Nat, k ≤ xs.length ∧ i = .int .i64 ((xs.length : Int) - k) ∧ p = pAt eso k ∧ ∃ ns : List Nat, LC wr l (es ++ ns) (vs ++ (xs.take k).map I) ∧ (∀ b ∈ ns, w.heap.size ≤ b) ∧ Chg (· ∈ l :: es) w wr ∧ ns.length = k) (fun i _ _ => (intOf i).toNat)
  case atStart => exact ⟨0, Nat.zero_le _, by simp, rfl, [], by simpa using H.out, by simp, Chg.refl _ _, rfl⟩
  case round =>
    obtain ⟨k, hk, rfl, rfl, ns, hlc, hge, hchg, hnl⟩ := hrel
    have HLC := Lib.hid hlc
    have HG := Lib.hid hge
    have HC := Lib.hid hchg
    have HNL := Lib.hid hnl
    have hlen := H.out.len_eq
    have HVL := Lib.hid hlen
    clear hlc hge hchg hnl hlen
    have hor : LC wr o eso (xs.map I) := HO.out.chg HC.out HD.out
    have HOR := Lib.hid hor
    by_cases hlt : k < xs.length
    · have hke : k < eso.length := by rw [HEL.out]; exact hlt
      rw [pAt_in hke]
      have c3 := hor.cell3i hke hlt
      have c1 := HLC.out.cell1
      have HS := Lib.hid (List.take_succ_eq_append_getElem hlt)
      have HNE := Lib.hid (enext_lc hor hke)
      have hmo : eso[k] ∈ eso := List.getElem_mem hke
      clear hor
      have HI := Lib.hid (fun (w2 : World) (hb : Bl wr w2) => insertLast_lc (HLC.out.bl hb) 3 (.int .i64 xs[k]) (by rw [List.length_append, HNL.out]; omega))
      have HPE := Lib.hid (pAt_in hke)
      have hnx : ∀ w3, LC w3 o eso (xs.map I) → Calls Try.prog 45 #[P eso[k]] w3 fun r w' => r = .returned (pAt eso (k + 1)) ∧ w3 = w' := fun w3 h => enext_lc h hke
      have HNX := Lib.hid hnx
      clear hnx
      generalize xs[k] = y at *
      generalize eso[k] = q at *
      generalize (l :: (es ++ ns))[(es ++ ns).length] = z at *
      go_wp2
      refine region_tail 10 (by kernel_rfl) (by kernel_rfl) ?_
      simp only [List.take_succ_cons, List.take_zero, List.drop_succ_cons, List.drop_zero]
      repeat still_step
      refine wpStill_nil ?_
      go_wp2_with fail
      refine (HI.out wr.drew (bl_drew (bl_refl _))).mono ?_
      rintro e w2 ⟨rfl, h2, c2⟩
      have H2 := Lib.hid h2
      have HC2 := Lib.hid ((HC.out.trans (chg_of_bl (bl_drew (bl_refl wr)) _)).then c2 (fun b hb hlt => by
        rcases List.mem_cons.1 hb with rfl | hb
        · simp
        · rcases List.mem_append.1 hb with hb | hb
          · simp [hb]
          · have := HG.out b hb; omega))
      have HO2 := Lib.hid (HO.out.chg HC2.out HD.out)
      clear h2 c2
      go_wp2_with fail
      refine (HNX.out _ HO2.out).mono ?_
      rintro e w3 ⟨rfl, rfl⟩
      go_wp2
      go_roundw
      case rel =>
        refine ⟨k + 1, by omega, by go_num, rfl, ns ++ [wr.heap.size], ?_, ?_, HC2.out, by simp [HNL.out]⟩
        · rw [HS.out, List.map_append, ← List.append_assoc, ← List.append_assoc]
          exact H2.out
        · intro b hb
          rcases List.mem_append.1 hb with hb | hb
          · exact HG.out b hb
          · simp at hb; rw [hb]; exact HC.out.size
      case measure => simp [intOf]; omega
    · obtain rfl : k = xs.length := by omega
      rw [List.take_length] at HLC
      go_wp2
      go_end0
      exact ⟨rfl, ns, HLC.out, HG.out, HC.out⟩
end

end Go.Proofs.Ytgjackalcajmjaa
