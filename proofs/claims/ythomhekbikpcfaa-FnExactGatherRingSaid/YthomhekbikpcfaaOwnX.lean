/- A slice of one's own without its first element: v[1:]. -/
import Derived.Test.YthomhekbikpcfaaIntS
namespace Go.Proofs.Ythomhekbikpcfaa
open Go.RowKit

/-- A slice of ints of one's own, without the one ahead of it. -/
def OwnX (w : World) (base : Nat) (v : Value) (xs : List Int) : Prop :=
  ∃ g c off y, v = .slice (some ⟨g, off, none⟩) xs.length c ∧ (0 < xs.length → off = 1) ∧ OwnI w base (.slice (some ⟨g, 0, none⟩) (xs.length + 1) (c + 1)) (y :: xs)

section
variable {w w' : World} {base : Nat} {v : Value} {xs : List Int}

theorem OwnX.ints (h : OwnX w base v xs) : Ints w v xs := by
  obtain ⟨g, c, off, y, rfl, ho, h⟩ := h
  obtain ⟨h1, A, c', e, h2, h3, h4⟩ := Sl.of_own h
  injection e with e1 e2 e3
  subst e1 e3
  refine ⟨by simp, _, _, rfl, by simp at h2; omega, by omega, fun h0 => ⟨g, 1, by rw [ho h0], fun j u hj => ?_⟩⟩
  obtain ⟨b, of, e, h5⟩ := h4 (by simp)
  injection e with e
  injection e with e1 e2
  subst e1 e2
  have := h5 (j + 1) u (by simpa using hj)
  rw [show 1 + j = 0 + (j + 1) by omega]
  exact this
theorem OwnX.bl (h : OwnX w base v xs) (hb : Bl w w') : OwnX w' base v xs := by
  obtain ⟨g, c, off, y, rfl, ho, h⟩ := h
  exact ⟨g, c, off, y, rfl, ho, own_bl h hb⟩
theorem OwnX.lt (h : OwnX w base v xs) : ∀ g, v.ownBlock = some g → base ≤ g ∧ g < w.heap.size := by
  obtain ⟨g, c, off, y, rfl, ho, h⟩ := h
  exact fun g' hg => own_lt h g' hg
theorem OwnX.chg {S : Nat → Prop} (h : OwnX w base v xs) (hb : Chg S w w') (hs : ∀ g, v.ownBlock = some g → ¬ S g) : OwnX w' base v xs := by
  obtain ⟨g, c, off, y, rfl, ho, h⟩ := h
  exact ⟨g, c, off, y, rfl, ho, own_chg h hb hs⟩
theorem OwnX.rebase {base' : Nat} (h : OwnX w base v xs) (hb : base' ≤ base) : OwnX w base' v xs := by
  obtain ⟨g, c, off, y, rfl, ho, h⟩ := h
  exact ⟨g, c, off, y, rfl, ho, own_base h hb⟩

/-- The call gives back a new slice of ints, cut from one. -/
def NewX (w : World) (xs : List Int) (e : Ending) (w' : World) : Prop := ∃ v, e = .returned v ∧ OwnX w' w.heap.size v xs ∧ Bl w w'

set_option maxHeartbeats 400000 in
theorem markIntS_ownX (v : Value) (base : Nat) (xs : List Int) (k : Int) (w : World) (hv : OwnX w base v xs) (h0 : 0 ≤ k) (hk : k + xs.length ≤ 4611686018427387904) :
    Calls Try.prog 22 #[v, .int .i64 k] w fun e w' => e = .returned (.int .i64 (k + xs.length)) ∧ OwnX w' base v (marks k xs.length) ∧ Chg (fun b => v.ownBlock = some b) w w' := by
  obtain ⟨g, c, off, y, rfl, ho, h⟩ := hv
  have hm : xs.length + 1 ≤ c + 1 ∧ c + 1 ≤ maxLen := by
    obtain ⟨A, c', e, h2, h3, _⟩ := own_open h
    injection e with e1 e2 e3
    subst e3
    exact ⟨by simpa using h2, h3⟩
  obtain ⟨hm1, hm2⟩ := hm
  unfold maxLen at hm2
  have HV := Lib.hid h
  have HO := Lib.hid ho
  clear h ho
  go_enter Try.func22, Try.ntmps22
  go_wp2
  go_loopw [1, 5] (fun t i wr => ∃ j : Nat, j ≤ xs.length ∧ i = .int .i64 j ∧ t = .int .i64 (k + j) ∧ wr.ownsRow base 3 1 (.slice (some ⟨g, 0, none⟩) (xs.length + 1) (c + 1)) (xs.length + 1) ((y :: (marks k j ++ xs.drop j)).map (Value.int .i64)) ∧ Chg (fun b => (Value.slice (some ⟨g, off, none⟩) xs.length c).ownBlock = some b) w wr) (fun _ i _ => xs.length - (intOf i).toNat)
  case atStart => exact ⟨0, Nat.zero_le _, rfl, by simp, HV.out, Chg.refl _ _⟩
  case round =>
    obtain ⟨j, hj, rfl, rfl, hown, hchg⟩ := hrel
    by_cases hlt : j < xs.length
    · obtain rfl : off = 1 := HO.out (by omega)
      have hc1 := own_cell hown (k := 1 + j) (by omega)
      have hf1 := own_frozen hown (1 + j)
      have H1 := Lib.hid (own_set hown (k := 1 + j) (.int .i64 (k + j)))
      have H2 := Lib.hid (hchg.setCell (p := ⟨g, 1 + j, none⟩) (by simp [Value.ownBlock]) (.int .i64 (k + j)))
      clear hown hchg
      go_wp2
      go_roundw
      case rel =>
        refine ⟨j + 1, by omega, by go_num, by go_num, ?_, H2.out⟩
        have e : (y :: (marks k j ++ xs.drop j)).set (1 + j) (k + j) = y :: (marks k (j + 1) ++ xs.drop (j + 1)) := by
          rw [show 1 + j = j + 1 by omega, List.set_cons_succ, set_mid _ _ _ _ (marks_len _ _) hlt, ← marks_succ]
        have := H1.out
        rwa [← List.map_set, e] at this
      case measure => simp [intOf]; omega
    · obtain rfl : j = xs.length := by omega
      have H1 := Lib.hid hown
      have H2 := Lib.hid hchg
      clear hown hchg
      go_wp2
      go_ret
      refine ⟨rfl, ⟨g, c, off, y, by rw [marks_len], by rw [marks_len]; exact HO.out, ?_⟩, H2.out⟩
      have := H1.out
      rw [List.drop_length, List.append_nil] at this
      unfold OwnI
      rw [List.length_cons, marks_len]
      exact this

/-- v[1:], of a slice of one's own. -/
theorem OwnX.of_own {g c : Nat} {y : Int} {off : Nat} (h : OwnI w base (.slice (some ⟨g, 0, none⟩) (xs.length + 1) c) (y :: xs)) (hoff : off = if c = 1 then 0 else 1) : OwnX w base (.slice (some ⟨g, off, none⟩) xs.length (c - 1)) xs := by
  have hc : xs.length + 1 ≤ c := by
    obtain ⟨A, c', e, h2, h3, _⟩ := own_open h
    injection e with e1 e2 e3
    subst e3
    simpa using h2
  refine ⟨g, c - 1, off, y, rfl, fun h0 => by rw [hoff, if_neg (by omega)], ?_⟩
  rw [show c - 1 + 1 = c by omega]
  exact h
end

end Go.Proofs.Ythomhekbikpcfaa
