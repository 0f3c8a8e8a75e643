/- The walks of the laws' functions on slices of slices of ints. -/
import Derived.Test.YthomhekbikpcfaaIntS
namespace Go.Proofs.Ythomhekbikpcfaa
open Go.RowKit

/-- All values, and the rows themselves. -/
def bulk (rows : List (List Int)) : Nat := rows.length + (rows.map List.length).sum

theorem le_sum {l : List Nat} {n : Nat} (h : n ∈ l) : n ≤ l.sum := by
  induction l with
  | nil => cases h
  | cons x l ih =>
    rw [List.sum_cons]
    rcases List.mem_cons.1 h with rfl | h
    · omega
    · have := ih h; omega
theorem bulk_row {rows : List (List Int)} {k : Nat} (hk : k < rows.length) : rows[k].length ≤ bulk rows := by
  have := le_sum (List.mem_map.2 ⟨_, List.getElem_mem hk, rfl⟩ : rows[k].length ∈ rows.map List.length)
  unfold bulk; omega

/-- A slice of slices of ints. -/
def Rowss (w : World) (v : Value) (rows : List (List Int)) : Prop := ∃ us : List Value, Sl w 1 v rows.length us ∧ ∀ k (hk : k < rows.length), ∃ u, us[k]? = some u ∧ Ints w u rows[k]

theorem Rowss.bl {w w' : World} {v : Value} {rows : List (List Int)} (h : Rowss w v rows) (hb : Bl w w') : Rowss w' v rows := by
  obtain ⟨us, h1, h2⟩ := h
  refine ⟨us, h1.bl hb, fun k hk => ?_⟩
  obtain ⟨u, e, hu⟩ := h2 k hk
  exact ⟨u, e, hu.bl hb⟩
theorem Rowss.open {w : World} {v : Value} {rows : List (List Int)} (h : Rowss w v rows) : ∃ A c, v = .slice A rows.length c ∧ rows.length ≤ c ∧ c ≤ maxLen ∧
    ∀ k (hk : k < rows.length), ∃ b off u, A = some ⟨b, off, none⟩ ∧ w.cell? ⟨b, off + k, none⟩ = some u ∧ Ints w u rows[k] := by
  obtain ⟨us, ⟨h1, A, c, rfl, h2, h3, h4⟩, h5⟩ := h
  refine ⟨A, c, rfl, h2, h3, fun k hk => ?_⟩
  obtain ⟨b, off, e, h6⟩ := h4 (by omega)
  obtain ⟨u, e2, hu⟩ := h5 k hk
  exact ⟨b, off, u, e, h6 k u e2, hu⟩

/-- Slices of ints of one's own, in a slice of one's own, no two in one block. -/
structure OwnSS (w : World) (base : Nat) (v : Value) (rows : List (List Int)) (us : List Value) : Prop where
  own : w.ownsRow base 24 1 v rows.length us
  row : ∀ k (hk : k < rows.length), ∃ u, us[k]? = some u ∧ OwnI w base u rows[k]
  sep : ∀ (i j : Nat) (u u' : Value), i < j → us[i]? = some u → us[j]? = some u' → ∀ g, u.ownBlock = some g → u'.ownBlock ≠ some g

theorem OwnSS.rowss {w : World} {base : Nat} {v : Value} {rows : List (List Int)} {us : List Value} (h : OwnSS w base v rows us) : Rowss w v rows :=
  ⟨us, Sl.of_own h.own, fun k hk => by obtain ⟨u, e, hu⟩ := h.row k hk; exact ⟨u, e, hu.ints⟩⟩
/-- The blocks that it owns. -/
def SSb (v : Value) (us : List Value) (k : Nat) : Prop := v.ownBlock = some k ∨ ∃ u ∈ us, u.ownBlock = some k
theorem OwnSS.keep {w w' : World} {base : Nat} {v : Value} {rows : List (List Int)} {us : List Value} (h : OwnSS w base v rows us) (hk : ∀ g, SSb v us g → w'.heap[g]? = w.heap[g]?) : OwnSS w' base v rows us := by
  refine ⟨own_keep h.own fun g hg => hk g (.inl hg), fun k hk' => ?_, h.sep⟩
  obtain ⟨u, e, hu⟩ := h.row k hk'
  exact ⟨u, e, own_keep hu fun g hg => hk g (.inr ⟨u, List.mem_of_getElem? e, hg⟩)⟩
theorem OwnSS.lt {w : World} {base : Nat} {v : Value} {rows : List (List Int)} {us : List Value} (h : OwnSS w base v rows us) : ∀ g, SSb v us g → base ≤ g ∧ g < w.heap.size := by
  rintro g (hg | ⟨u, hu, hg⟩)
  · exact own_lt h.own g hg
  · obtain ⟨k, hk, e⟩ := List.getElem_of_mem hu
    have hkr : k < rows.length := by have := h.own.1; omega
    obtain ⟨u', e', hu'⟩ := h.row k hkr
    rw [List.getElem?_eq_getElem hk, e] at e'
    simp at e'
    subst e'
    exact own_lt hu' g hg
theorem OwnSS.bl {w w' : World} {base : Nat} {v : Value} {rows : List (List Int)} {us : List Value} (h : OwnSS w base v rows us) (hb : Bl w w') : OwnSS w' base v rows us := h.keep fun g hg => hb.block g (h.lt g hg).2
theorem OwnSS.chg {S : Nat → Prop} {w w' : World} {base : Nat} {v : Value} {rows : List (List Int)} {us : List Value} (h : OwnSS w base v rows us) (hb : Chg S w w') (hs : ∀ g, SSb v us g → ¬ S g) : OwnSS w' base v rows us := h.keep fun g hg => hb.block g (h.lt g hg).2 (hs g hg)
theorem OwnSS.base {w : World} {base base' : Nat} {v : Value} {rows : List (List Int)} {us : List Value} (h : OwnSS w base v rows us) (hb : base' ≤ base) : OwnSS w base' v rows us :=
  ⟨own_base h.own hb, fun k hk => by obtain ⟨u, e, hu⟩ := h.row k hk; exact ⟨u, e, own_base hu hb⟩, h.sep⟩

theorem rowInfo : (Try.prog.info? 24).map (fun i => (i.zero, i.size, i.bytes)) = some (some (.slice none 0 0), 1, 24) := by kernel_rfl

def NewSS (w : World) (rows : List (List Int)) (e : Ending) (w' : World) : Prop := ∃ v us, e = .returned v ∧ OwnSS w' w.heap.size v rows us ∧ Bl w w'

/-- Rows that are told one by one. -/
structure PartSS (w : World) (base : Nat) (v : Value) (n : Nat) (rows : List (List Int)) (us : List Value) : Prop where
  own : w.ownsRow base 24 1 v n us
  row : ∀ k (hk : k < rows.length), ∃ u, us[k]? = some u ∧ OwnI w base u rows[k]
  sep : ∀ (i j : Nat) (u u' : Value), i < j → j < rows.length → us[i]? = some u → us[j]? = some u' → ∀ g, u.ownBlock = some g → u'.ownBlock ≠ some g

theorem PartSS.set {w w1 : World} {base n c g : Nat} {rows : List (List Int)} {us : List Value} {xs : List Int} {u : Value} (h : PartSS w base (.slice (some ⟨g, 0, none⟩) n c) n rows us) (hb : Bl w w1) (hbase : base ≤ w.heap.size) (hu : OwnI w1 w.heap.size u xs) (hn : rows.length < n) :
    PartSS (w1.setCell ⟨g, rows.length, none⟩ u) base (.slice (some ⟨g, 0, none⟩) n c) n (rows ++ [xs]) (us.set rows.length u) := by
  have hown1 := own_bl h.own hb
  have hg : g < w.heap.size := (own_lt h.own g rfl).2
  have hlen : us.length = n := by have := h.own.1; omega
  refine ⟨own_set hown1 u, fun k hk => ?_, fun i j a b hij hj ha hb' gg hga hgb => ?_⟩
  · by_cases hkr : k < rows.length
    · obtain ⟨a, e, ha⟩ := h.row k hkr
      refine ⟨a, by rw [List.getElem?_set_ne (by omega)]; exact e, ?_⟩
      rw [List.getElem_append_left hkr]
      have ha1 := own_bl ha hb
      refine own_keep ha1 fun g' hg' => Below.heap_setCell _ _ _ _ fun e' => ?_
      subst e'
      have := own_ne ha h.own (by decide) g' hg'
      exact this rfl
    · have ek : k = rows.length := by simp at hk; omega
      subst ek
      refine ⟨u, by rw [List.getElem?_set_self (by omega)], ?_⟩
      have e2 : (rows ++ [xs])[rows.length] = xs := by simp
      rw [e2]
      refine own_keep (own_base hu hbase) fun g' hg' => Below.heap_setCell _ _ _ _ fun e' => ?_
      subst e'
      have := (own_lt hu g' hg').1
      exact absurd this (by show ¬ w.heap.size ≤ g'; exact Nat.not_le.2 hg)
  · have hj' : j < rows.length + 1 := by simpa using hj
    by_cases hjr : j < rows.length
    · rw [List.getElem?_set_ne (by omega)] at ha hb'
      exact h.sep i j a b hij hjr ha hb' gg hga hgb
    · have ej : j = rows.length := by omega
      subst ej
      rw [List.getElem?_set_self (by omega)] at hb'
      rw [List.getElem?_set_ne (by omega)] at ha
      simp at hb'
      subst hb'
      obtain ⟨a', e', ha'⟩ := h.row i hij
      rw [ha] at e'
      simp at e'
      subst e'
      have h1 := (own_lt ha' gg hga).2
      have h2 := (own_lt hu gg hgb).1
      omega

set_option maxHeartbeats 1000000 in
theorem toIntSS_any (v : Value) (rows : List (List Int)) (w : World) (hv : Rowss w v rows) (hl : bulk rows ≤ 1048576) :
    Calls Try.prog 17 #[v] w (NewSS w rows) := by
  obtain ⟨A, c, rfl, hc, hm, hv⟩ := hv.open
  obtain ⟨i0, hi, hz0, hz1, hz2⟩ := info_parts rowInfo
  have HV := Lib.hid hv
  have hrl : rows.length ≤ 1048576 := by unfold bulk at hl; omega
  clear hv
  unfold maxLen at hm
  go_enter Try.func17, Try.ntmps17
  go_wp2_with (at_make; refine wpList_make_full _ rfl _ _ 22 rfl w.heap.size 24 i0 _ 1 Try.underlying22 hi hz0 hz1 _ _ _ _ rows.length rfl rfl rfl rfl (by rw [hz2]; omega) (by unfold maxLen; omega) (Nat.le_refl _) ?_; intro w1 hown hg)
  generalize (madeCells (Value.slice none 0 0).cells (rows.length * 1)).toList = Z at hown
  have HO := Lib.hid hown
  have HB := Lib.hid ((Below.refl _ _).grown hg (Nat.le_refl _) (by simp))
  clear hown hg
  go_loopw [4] (fun i wr => ∃ k : Nat, k ≤ rows.length ∧ i = .int .i64 k ∧ (∃ us, PartSS wr w.heap.size (.slice (some ⟨w.heap.size, 0, none⟩) rows.length rows.length) rows.length (rows.take k) us) ∧ Bl w wr) (fun i _ => rows.length - (intOf i).toNat)
  case atStart => exact ⟨0, Nat.zero_le _, rfl, ⟨Z, HO.out, fun k hk => absurd hk (by simp), fun i j _ _ _ hj => absurd hj (by simp)⟩, HB.out⟩
  case round =>
    obtain ⟨k, hk, rfl, ⟨us, hp⟩, hbl⟩ := hrel
    have HP := Lib.hid hp
    have HB1 := Lib.hid hbl
    clear hp hbl
    by_cases hlt : k < rows.length
    · obtain ⟨b, off, u, rfl, hc1, hu⟩ := HV.out k hlt
      have hr1 := (HB1.out.cell (World.block_lt_of_cell? _ _ hc1)).trans hc1
      have HU := Lib.hid (hu.bl HB1.out)
      obtain ⟨A2, c2, hu2, _, _, _⟩ := hu.open
      subst hu2
      have hkl : rows[k].length ≤ 1048576 := Nat.le_trans (bulk_row hlt) hl
      have HS := Lib.hid (List.take_succ_eq_append_getElem hlt)
      have hlen : (rows.take k).length = k := by rw [List.length_take]; omega
      have HLEN := Lib.hid hlen
      clear hc1 hu hlen
      generalize rows[k] = row at *
      go_wp2_with fail
      refine (toIntS_any _ row _ HU.out hkl).mono ?_
      rintro e w2 ⟨v2, rfl, o2, b2⟩
      have hg : w.heap.size < wr.heap.size := (own_lt HP.out.own w.heap.size rfl).2
      have H2 := HP.out.set b2 HB1.out.size o2 (by rw [HLEN.out]; exact hlt)
      rw [HLEN.out] at H2
      obtain ⟨x1, hx1⟩ : ∃ x, w2.cell? ⟨w.heap.size, k, none⟩ = some x := ⟨_, own_cell (own_bl HP.out.own b2) (by omega)⟩
      have hf1 := own_frozen (own_bl HP.out.own b2) k
      obtain ⟨A3, c3, hv3, _, _, _⟩ := own_open o2
      subst hv3
      have HH2 := Lib.hid H2
      have HB2 := Lib.hid (bl_set (p := ⟨w.heap.size, k, none⟩) (bl_trans HB1.out b2) (Nat.le_refl _) (.slice A3 row.length c3))
      clear o2 b2 H2
      go_wp2
      go_roundw
      case rel => exact ⟨k + 1, by omega, by go_num, ⟨_, by rw [HS.out]; exact HH2.out⟩, HB2.out⟩
      case measure => simp [intOf]; omega
    · obtain rfl : k = rows.length := by omega
      rw [List.take_length] at HP
      go_wp2
      go_ret
      refine ⟨_, us, rfl, ⟨HP.out.own, HP.out.row, fun i j u u' hij ha hb => ?_⟩, HB1.out⟩
      have hj : j < rows.length := by
        have := (List.getElem?_eq_some_iff.1 hb).1
        have h2 := HP.out.own.1
        omega
      exact HP.out.sep i j u u' hij hj ha hb

end Go.Proofs.Ythomhekbikpcfaa
