/- Links along an order make one ring: plain lemmas. -/
import Derived.Test.YtebkmegkdcnfaaaCycLink
import Derived.Test.YtebkmegkdcnfaaaCircleMore
import Derived.Test.YtebkmegkdcnfaaaTurn
namespace Go.Proofs.Ytebkmegkdcnfaaa
open Go.RowKit

theorem circleOf_nat (n k : Int) : ∃ os : List Nat, circleOf n k = natI os ∧ os.Perm (List.range (ix n 200)) := by
  have h : (circleOf n k).Perm (nums (ix n 200)) := circle_perm _ _ _ rfl
  have hn : nums (ix n 200) = natI (List.range (ix n 200)) := by
    unfold nums marks natI
    apply List.map_congr_left
    intro i _
    omega
  rw [hn] at h
  refine ⟨(circleOf n k).map Int.toNat, ?_, ?_⟩
  · unfold natI
    rw [List.map_map]
    conv => lhs; rw [← List.map_id (circleOf n k)]
    apply List.map_congr_left
    intro x hx
    obtain ⟨y, _, e⟩ := List.mem_map.1 (h.mem_iff.1 hx)
    simp only [id, Function.comp]
    omega
  · have h2 := h.map Int.toNat
    have h3 : (natI (List.range (ix n 200))).map Int.toNat = List.range (ix n 200) := by
      unfold natI
      rw [List.map_map]
      conv => rhs; rw [← List.map_id (List.range (ix n 200))]
      apply List.map_congr_left
      intro x _
      simp only [id, Function.comp]
      omega
    rw [h3] at h2
    exact h2

/-- The links along an order, up to one of its elements. -/
def chainTo (os : List Nat) (j : Nat) : List (Int × Int) := (List.range j).map fun i => ((os.getD i 0 : Int), (os.getD (i + 1) 0 : Int))
theorem chainTo_len (os : List Nat) (j : Nat) : (chainTo os j).length = j := by simp [chainTo]
theorem chainTo_succ (os : List Nat) (j : Nat) : chainTo os (j + 1) = chainTo os j ++ [((os.getD j 0 : Int), (os.getD (j + 1) 0 : Int))] := by
  unfold chainTo; rw [List.range_succ, List.map_append]; rfl
theorem ix_nat {x N : Nat} (h : x < N) : ix (x : Int) N = x := by
  unfold ix
  rw [Int.emod_eq_of_lt (by omega) (by omega)]
  omega
theorem getD_eq {os : List Nat} {j : Nat} (h : j < os.length) : os.getD j 0 = os[j] := by
  rw [List.getD_eq_getElem?_getD, List.getElem?_eq_getElem h]; rfl

theorem chain_inv (N : Nat) (os : List Nat) (hp : os.Perm (List.range N)) (h0 : 0 < N) : ∀ j, j < N →
    Path (linkAll N (id, id) (chainTo os j)).1 (os.getD 0 0) (os.take (j + 1)) (os.getD 0 0) ∧ ∀ x, x ∉ os.take (j + 1) → (linkAll N (id, id) (chainTo os j)).1 x = x := by
  have hl : os.length = N := by rw [hp.length_eq, List.length_range]
  have hnd : os.Nodup := hp.symm.nodup List.nodup_range
  have hlt : ∀ x ∈ os, x < N := fun x hx => List.mem_range.1 (hp.mem_iff.1 hx)
  intro j
  induction j with
  | zero =>
    intro _
    refine ⟨?_, fun x _ => rfl⟩
    cases os with
    | nil => simp at hl; omega
    | cons o os => exact ⟨rfl, rfl⟩
  | succ j ih =>
    intro hj
    obtain ⟨h1, h2⟩ := ih (by omega)
    have hL : linkAll N (id, id) (chainTo os (j + 1)) = linkStep N (linkAll N (id, id) (chainTo os j)) ((os.getD j 0 : Int), (os.getD (j + 1) 0 : Int)) := by
      rw [chainTo_succ]; unfold linkAll; rw [List.foldl_append]; rfl
    have hP := linkAll_perm N (chainTo os j)
    rw [hL]
    generalize linkAll N (id, id) (chainTo os j) = s at *
    have ea : os.getD j 0 = os[j] := getD_eq (by omega)
    have eb : os.getD (j + 1) 0 = os[j + 1] := getD_eq (by omega)
    have la : os[j] < N := hlt _ (List.getElem_mem _)
    have lb : os[j + 1] < N := hlt _ (List.getElem_mem _)
    have hbn : os[j + 1] ∉ os.take (j + 1) := by
      intro hm
      obtain ⟨i, hi, e⟩ := List.getElem_of_mem hm
      rw [List.getElem_take] at e
      have := (List.getElem_inj hnd).1 e
      rw [List.length_take] at hi
      omega
    have hfb := h2 _ hbn
    have hgb : s.2 os[j + 1] = os[j + 1] := by
      have := hP.gf _ lb
      rwa [hfb] at this
    have hT : os.take (j + 1) = os.take j ++ [os[j]] := List.take_succ_eq_append_getElem (by omega)
    have hT2 : os.take (j + 1 + 1) = os.take (j + 1) ++ [os[j + 1]] := List.take_succ_eq_append_getElem (by omega)
    have hfa : s.1 os[j] = os.getD 0 0 := by
      rw [hT] at h1
      exact h1.last
    have hf : (linkStep N s ((os.getD j 0 : Int), (os.getD (j + 1) 0 : Int))).1 = upd (upd s.1 os[j] os[j + 1]) os[j + 1] (os.getD 0 0) := by
      unfold linkStep lnx
      simp only [ea, eb, ix_nat la, ix_nat lb, hgb, hfa]
    rw [hf]
    have haj : os[j] ∉ os.take j := by
      intro hm
      obtain ⟨i, hi, e⟩ := List.getElem_of_mem hm
      rw [List.getElem_take] at e
      have := (List.getElem_inj hnd).1 e
      rw [List.length_take] at hi
      omega
    constructor
    · rw [hT2]
      refine Path.append (c := os[j + 1]) (Path.upd_far ?_ hbn _) ⟨rfl, ?_⟩
      · rw [hT] at h1 ⊢
        exact h1.upd_last haj _
      · rw [upd_same]; exact rfl
    · intro x hx
      rw [hT2, List.mem_append] at hx
      have n1 : x ≠ os[j + 1] := fun e => hx (.inr (by simp [e]))
      have n2 : x ≠ os[j] := fun e => hx (.inl (by rw [hT, List.mem_append]; exact .inr (List.mem_singleton.2 e)))
      rw [upd_other _ _ n1, upd_other _ _ n2]
      exact h2 x (fun h => hx (.inl h))

/-- The only ring. -/
theorem chain_cycs (N : Nat) (os : List Nat) (hp : os.Perm (List.range N)) (h0 : 0 < N) {p : Nat} (hpl : p < os.length) (hp0 : os[p] = 0) :
    cycs N (linkAll N (id, id) (chainTo os (N - 1))).1 = [rot os p] := by
  have hl : os.length = N := by rw [hp.length_eq, List.length_range]
  have hnd : os.Nodup := hp.symm.nodup List.nodup_range
  have hlt : ∀ x ∈ os, x < N := fun x hx => List.mem_range.1 (hp.mem_iff.1 hx)
  obtain ⟨h1, _⟩ := chain_inv N os hp h0 (N - 1) (by omega)
  have hP := linkAll_perm N (chainTo os (N - 1))
  generalize linkAll N (id, id) (chainTo os (N - 1)) = s at *
  rw [show N - 1 + 1 = os.length by omega, List.take_length] at h1
  have hR : Rings N s.1 [os] := by
    refine ⟨fun c hc => ?_, by simpa using hnd, fun j hj => by simpa using hp.mem_iff.2 (List.mem_range.2 hj)⟩
    simp only [List.mem_cons, List.not_mem_nil, or_false] at hc
    subst hc
    cases c with
    | nil => simp at hl; omega
    | cons o c => exact ⟨o, c, rfl, h1, hnd, hlt⟩
  have hC := cycsTo_inv hP N (Nat.le_refl _)
  have hlen := (cycs_rings hP).same hR
  obtain ⟨c, hc⟩ : ∃ c, cycs N s.1 = [c] := by
    cases hcy : cycs N s.1 with
    | nil => rw [hcy] at hlen; simp at hlen
    | cons c cs =>
      rw [hcy] at hlen
      simp at hlen
      exact ⟨c, by rw [hlen]⟩
  have hC' : CInv N s.1 N [c] := by rw [← hc]; exact hC
  obtain ⟨j, A, rfl, hj, hcy, hle⟩ := hC'.cyc c (by simp)
  have h00 := hC'.all 0 h0
  simp only [List.flatten_cons, List.flatten_nil, List.append_nil] at h00
  have hj0 : j = 0 := by have := hle 0 h00; omega
  subst hj0
  obtain ⟨o, B, e, ho⟩ := hR.cyc os (by simp)
  have hsp : os = os.take p ++ 0 :: os.drop (p + 1) := by
    conv => lhs; rw [← List.take_append_drop p os, List.drop_eq_getElem_cons hpl, hp0]
  have hrot : rot os p = 0 :: (os.drop (p + 1) ++ os.take p) := by
    unfold rot
    rw [List.drop_eq_getElem_cons hpl, hp0]; rfl
  have hcr : Cyc N s.1 0 (os.drop (p + 1) ++ os.take p) := by
    refine ⟨?_, ?_, ?_⟩
    · have h3 := h1
      rw [hsp] at h3
      have h4 : Path s.1 (os.getD 0 0) (os.take p ++ 0 :: os.drop (p + 1)) (os.getD 0 0) := by rw [← hsp]; exact h1
      exact h4.turns rfl
    · rw [← hrot]; exact (rot_perm os p).symm.nodup hnd
    · rw [← hrot]; intro x hx; exact hlt x ((rot_perm os p).mem_iff.1 hx)
  rw [hc, ← hcy.eq, hcr.eq, hrot]
theorem natI_rot (os : List Nat) (p : Nat) : natI (rot os p) = rot (natI os) p := by
  unfold natI; rw [rot_map]

end Go.Proofs.Ytebkmegkdcnfaaa
