/- What a link does to the rings, as the laws ask for it; the walks of together and of same. -/
import Derived.Test.YtebkmegkdcnfaaaCycMore
import Derived.Test.YtebkmegkdcnfaaaCycles
namespace Go.Proofs.Ytebkmegkdcnfaaa
open Go.RowKit

theorem cycs_rings {n : Nat} {f g : Nat → Nat} (hf : Perm2 n f g) : Rings n f (cycs n f) := (cycsTo_inv hf n (Nat.le_refl _)).rings
theorem lnx_perm {n : Nat} {f g : Nat → Nat} (hf : Perm2 n f g) {a b : Nat} (ha : a < n) (hb : b < n) : Perm2 n (lnx f g a b) (lpv f g a b) := by
  obtain ⟨h1, h2, h3, h4⟩ := link_inv (D := (· < n)) hf.fD hf.gD hf.gf hf.fg ha hb
  exact ⟨h1, h2, h3, h4⟩
/-- b follows a already: nothing changes. -/
theorem lnx_same {n : Nat} {f g : Nat → Nat} (hf : Perm2 n f g) {a b : Nat} (ha : a < n) (e : f a = b) : lnx f g a b = f := by
  funext x
  unfold lnx
  have hg : g b = a := by rw [← e, hf.gf a ha]
  rw [hg]
  by_cases hx : x = a
  · rw [hx, upd_same]
  · rw [upd_other _ _ hx, upd_other _ _ hx]
theorem lnx_at {n : Nat} {f g : Nat → Nat} (hf : Perm2 n f g) {a b : Nat} (hb : b < n) : lnx f g a b a = b := by
  unfold lnx
  by_cases h : a = g b
  · rw [← h, upd_same, h, hf.fg b hb]
  · rw [upd_other _ _ h, upd_same]
theorem Cyc.mem_cyc {n : Nat} {f : Nat → Nat} {a : Nat} {A : List Nat} (h : Cyc n f a A) (x : Nat) : x ∈ cyc n f a ↔ x ∈ a :: A := by rw [h.eq]
/-- A link within a ring. -/
theorem cycs_split {n : Nat} {f g : Nat → Nat} (hf : Perm2 n f g) {a b : Nat} (ha : a < n) (hb : b < n) (hne : f a ≠ b) (hm : b ∈ cyc n f a) :
    (cycs n (lnx f g a b)).length = (cycs n f).length + 1 ∧ f a ∉ cyc n (lnx f g a b) a := by
  obtain ⟨A, rest, h1, h2⟩ := (cycs_rings hf).at ha
  obtain ⟨j, A', e, hc⟩ := h1.cyc (a :: A) (by simp)
  obtain ⟨rfl, rfl⟩ := List.cons.inj e
  obtain ⟨B, C, h3⟩ := h1.split hf ((hc.mem_cyc b).1 hm) hne
  have h4 := (cycs_rings (lnx_perm hf ha hb)).same h3
  constructor
  · rw [h4, ← h2]; simp
  · obtain ⟨j, A', e, hd⟩ := h3.cyc (a :: B) (by simp)
    obtain ⟨rfl, rfl⟩ := List.cons.inj e
    intro hm'
    have h5 := (hd.mem_cyc _).1 hm'
    have h6 := h3.nodup
    simp only [List.flatten_cons] at h6
    rw [List.nodup_append] at h6
    exact h6.2.2 (f a) h5 (f a) (by simp) rfl
/-- A link between two rings. -/
theorem cycs_merge {n : Nat} {f g : Nat → Nat} (hf : Perm2 n f g) {a b : Nat} (ha : a < n) (hb : b < n) (hm : b ∉ cyc n f a) :
    (cycs n (lnx f g a b)).length + 1 = (cycs n f).length ∧ b ∈ cyc n (lnx f g a b) a := by
  obtain ⟨A, rest, h1, h2⟩ := (cycs_rings hf).at ha
  obtain ⟨j, A', e, hc⟩ := h1.cyc (a :: A) (by simp)
  obtain ⟨rfl, rfl⟩ := List.cons.inj e
  obtain ⟨B, rest', h3, h4⟩ := h1.at2 hb (fun h => hm ((hc.mem_cyc b).2 h))
  obtain ⟨C, hbC, h5⟩ := h3.merge hf
  have h6 := (cycs_rings (lnx_perm hf ha hb)).same h5
  constructor
  · rw [h6, ← h2, ← h4]; simp
  · obtain ⟨j, A', e, hd⟩ := h5.cyc (a :: C) (by simp)
    obtain ⟨rfl, rfl⟩ := List.cons.inj e
    exact (hd.mem_cyc b).2 (List.mem_cons_of_mem _ hbC)

/-- Whether two numbers are in one row, that of the first one's first row. -/
def togetherL : List (List Int) → Int → Int → Bool
  | [], _, _ => false
  | r :: rs, a, b => if 0 < r.count a then decide (0 < r.count b) else togetherL rs a b
theorem natI_mem (c : List Nat) (x : Nat) : 0 < (natI c).count (x : Int) ↔ x ∈ c := by
  rw [List.count_pos_iff]
  unfold natI
  rw [List.mem_map]
  exact ⟨fun ⟨y, hy, e⟩ => by have : y = x := by omega
                              exact this ▸ hy, fun h => ⟨x, h, rfl⟩⟩
theorem togetherL_cyc {n : Nat} {f : Nat → Nat} {a : Nat} {B : List Nat} (hB : Cyc n f a B) (b : Nat) : ∀ out : List (List Nat), (∀ c ∈ out, ∃ j A, c = j :: A ∧ Cyc n f j A) → a ∈ out.flatten →
    togetherL (rowsI out) a b = decide (b ∈ cyc n f a) := by
  intro out
  induction out with
  | nil => intro _ h; simp at h
  | cons c out ih =>
    intro hc ha
    obtain ⟨j, A, rfl, hA⟩ := hc c (by simp)
    show (if 0 < (natI (j :: A)).count (a : Int) then decide (0 < (natI (j :: A)).count (b : Int)) else togetherL (rowsI out) a b) = _
    by_cases hm : a ∈ j :: A
    · rw [if_pos ((natI_mem _ _).2 hm)]
      have h1 := hA.mem_iff hB hm (by simp) b
      rw [hB.eq]
      exact decide_eq_decide.2 ((natI_mem _ _).trans h1)
    · rw [if_neg (fun h => hm ((natI_mem _ _).1 h))]
      refine ih (fun c hc' => hc c (by simp [hc'])) ?_
      rw [List.flatten_cons, List.mem_append] at ha
      exact ha.resolve_left hm
theorem together_cycs {n : Nat} {f g : Nat → Nat} (hf : Perm2 n f g) {a : Nat} (ha : a < n) (b : Nat) : togetherL (rowsI (cycs n f)) a b = decide (b ∈ cyc n f a) := by
  obtain ⟨B, hB⟩ := hf.cyc ha
  exact togetherL_cyc hB b _ (cycs_rings hf).cyc ((cycs_rings hf).all a ha)
theorem togetherL_drop (rows : List (List Int)) (a b : Int) (k : Nat) (hk : k < rows.length) : togetherL (rows.drop k) a b = if 0 < rows[k].count a then decide (0 < rows[k].count b) else togetherL (rows.drop (k + 1)) a b := by
  rw [List.drop_eq_getElem_cons hk]; rfl

set_option maxRecDepth 100000 in
set_option maxHeartbeats 1000000 in
theorem together_any (v : Value) (rows : List (List Int)) (a b : Int) (w : World) (hv : Rowss w v rows) :
    Calls Try.prog 29 #[v, .int .i64 a, .int .i64 b] w fun e w' => e = .returned (.bool (togetherL rows a b)) ∧ w = w' := by
  obtain ⟨A, c, rfl, hc, hm, hv⟩ := hv.open
  have HV := Lib.hid hv
  clear hv
  unfold maxLen at hm
  go_enter Try.func29, Try.ntmps29
  go_wp2
  go_loop [6, 8, 11] (fun _ _ i => ∃ k : Nat, k ≤ rows.length ∧ i = .int .i64 k ∧ togetherL rows a b = togetherL (rows.drop k) a b) (fun _ _ i => rows.length - (intOf i).toNat)
  case atStart => exact ⟨0, Nat.zero_le _, rfl, rfl⟩
  case round =>
    obtain ⟨k, hk, rfl, ht⟩ := hrel
    have HT := Lib.hid ht
    clear ht
    by_cases hlt : k < rows.length
    · obtain ⟨g, off, u, rfl, hc1, hu⟩ := HV.out k hlt
      have HU := Lib.hid hu
      have HD := Lib.hid (togetherL_drop rows a b k hlt)
      obtain ⟨A2, c2, hu2, _, _, _⟩ := hu.open
      subst hu2
      clear hu
      generalize rows[k] = row at *
      by_cases h0 : 0 < row.count a
      · rw [if_pos h0] at HD
        have h1 : (0 : Int) < (row.count a : Int) := by omega
        go_wp2_with fail
        refine (count_any _ row a _ HU.out).mono ?_
        rintro e w1 ⟨rfl, rfl⟩
        go_wp2_with fail
        refine (count_any _ row b _ HU.out).mono ?_
        rintro e w1 ⟨rfl, rfl⟩
        go_wp2
        go_ret
        refine ⟨?_, rfl⟩
        rw [HT.out, HD.out]
        exact congrArg (fun x => Ending.returned (.bool x)) (decide_eq_decide.2 List.count_pos_iff.symm)
      · rw [if_neg h0] at HD
        have h1 : (row.count a : Int) = 0 := by omega
        go_wp2_with fail
        refine (count_any _ row a _ HU.out).mono ?_
        rintro e w1 ⟨rfl, rfl⟩
        rw [h1]
        go_wp2
        go_round
        case rel => exact ⟨k + 1, by omega, by go_num, by rw [HT.out, HD.out]⟩
        case measure => simp [intOf]; omega
    · obtain rfl : k = rows.length := by omega
      go_wp2
      go_ret
      refine ⟨?_, rfl⟩
      rw [HT.out, List.drop_length]; rfl

theorem take_next {xs ys : List Int} {k : Nat} (h : xs.take k = ys.take k) (h1 : k < xs.length) (h2 : k < ys.length) (e : xs[k] = ys[k]) : xs.take (k + 1) = ys.take (k + 1) := by
  rw [List.take_succ_eq_append_getElem h1, List.take_succ_eq_append_getElem h2, h, e]
set_option maxRecDepth 100000 in
set_option maxHeartbeats 1000000 in
theorem same_false (v u : Value) (xs ys : List Int) (w : World) (hv : Ints w v xs) (hu : Ints w u ys) (hne : xs ≠ ys) :
    Calls Try.prog 16 #[v, u] w fun e w' => e = .returned (.bool false) ∧ Bl w w' := by
  obtain ⟨A, c, rfl, hc, hm, hv⟩ := hv.open
  obtain ⟨B, d, rfl, hd, hm2, hu⟩ := hu.open
  have HV := Lib.hid hv
  have HU := Lib.hid hu
  have HN := Lib.hid hne
  clear hv hu hne
  unfold maxLen at hm hm2
  by_cases hl : xs.length = ys.length
  · have HL := Lib.hid hl
    rw [← hl] at hd ⊢
    clear hl
    go_enter Try.func16, Try.ntmps16
    go_wp2
    go_loopw [5, 13] (fun _ i wr => ∃ k : Nat, k ≤ xs.length ∧ i = .int .i64 k ∧ xs.take k = ys.take k ∧ ∃ n, wr = w.drewN n) (fun _ i _ => xs.length - (intOf i).toNat)
    case atStart => exact ⟨0, Nat.zero_le _, rfl, rfl, 0, rfl⟩
    case round =>
      obtain ⟨k, hk, rfl, ht, n, rfl⟩ := hrel
      have HT := Lib.hid ht
      clear ht
      by_cases hlt : k < xs.length
      · obtain ⟨b, off, rfl, hc1⟩ := HV.out k hlt
        obtain ⟨b2, off2, rfl, hc2⟩ := HU.out k (by rw [← HL.out]; exact hlt)
        have HS := Lib.hid (take_next HT.out hlt (by rw [← HL.out]; exact hlt))
        generalize xs[k] = x at *
        generalize ys[k]'(by rw [← HL.out]; exact hlt) = y at *
        by_cases he : x = y
        · subst he
          have HS2 := Lib.hid (HS.out rfl)
          clear HS
          go_wp2
          go_quiet (fail)
          go_wp2
          go_roundw
          case rel => exact ⟨k + 1, by omega, by go_num, HS2.out, _, rfl⟩
          case measure => simp [intOf]; omega
        · have hb : (x == y) = false := by simpa using he
          clear he
          go_wp2
          go_quiet (fail)
          go_wp2
          go_ret
          exact ⟨rfl, bl_drewN (bl_drewN (bl_refl _) _) _⟩
      · obtain rfl : k = xs.length := by omega
        have h1 := HT.out
        rw [List.take_length, HL.out, List.take_length] at h1
        exact absurd h1 HN.out
  · have hb : (((xs.length : Nat) : Int) == ((ys.length : Nat) : Int)) = false := by rw [beq_eq_false_iff_ne]; omega
    clear hl
    go_enter Try.func16, Try.ntmps16
    go_wp2
    go_ret
    exact ⟨rfl, bl_refl _⟩
theorem same_any (v u : Value) (xs ys : List Int) (w : World) (hv : Ints w v xs) (hu : Ints w u ys) :
    Calls Try.prog 16 #[v, u] w fun e w' => e = .returned (.bool (decide (xs = ys))) ∧ Bl w w' := by
  by_cases h : xs = ys
  · subst h
    rw [decide_eq_true rfl]
    exact same_true v u xs w hv hu
  · rw [decide_eq_false h]
    exact same_false v u xs ys w hv hu h

end Go.Proofs.Ytebkmegkdcnfaaa
