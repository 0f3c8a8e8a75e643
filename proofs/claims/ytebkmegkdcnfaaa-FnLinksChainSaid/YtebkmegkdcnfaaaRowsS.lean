/- The walks of the laws' functions on slices of slices of ints. -/
import Derived.Test.YtebkmegkdcnfaaaIntS
namespace Go.Proofs.Ytebkmegkdcnfaaa
open Go.RowKit

/-- All values, and the rows themselves. -/
def bulk (rows : List (List Int)) : Nat := rows.length + (rows.map List.length).sum

theorem le_sum {l : List Nat} {n : Nat} (h : n ∈ l) : n ≤ l.sum := by
  induction l with
  | nil => cases h
  | cons x l ih =>
    rw [List.sum_cons]
    rcases List.mem_cons.1 h with rfl | h
    · omega
    · have := ih h; omega
theorem bulk_row {rows : List (List Int)} {k : Nat} (hk : k < rows.length) : rows[k].length ≤ bulk rows := by
  have := le_sum (List.mem_map.2 ⟨_, List.getElem_mem hk, rfl⟩ : rows[k].length ∈ rows.map List.length)
  unfold bulk; omega

/-- A slice of slices of ints. -/
def Rowss (w : World) (v : Value) (rows : List (List Int)) : Prop := ∃ us : List Value, Sl w 1 v rows.length us ∧ ∀ k (hk : k < rows.length), ∃ u, us[k]? = some u ∧ Ints w u rows[k]

theorem Rowss.bl {w w' : World} {v : Value} {rows : List (List Int)} (h : Rowss w v rows) (hb : Bl w w') : Rowss w' v rows := by
  obtain ⟨us, h1, h2⟩ := h
  refine ⟨us, h1.bl hb, fun k hk => ?_⟩
  obtain ⟨u, e, hu⟩ := h2 k hk
  exact ⟨u, e, hu.bl hb⟩
theorem Rowss.open {w : World} {v : Value} {rows : List (List Int)} (h : Rowss w v rows) : ∃ A c, v = .slice A rows.length c ∧ rows.length ≤ c ∧ c ≤ maxLen ∧
    ∀ k (hk : k < rows.length), ∃ b off u, A = some ⟨b, off, none⟩ ∧ w.cell? ⟨b, off + k, none⟩ = some u ∧ Ints w u rows[k] := by
  obtain ⟨us, ⟨h1, A, c, rfl, h2, h3, h4⟩, h5⟩ := h
  refine ⟨A, c, rfl, h2, h3, fun k hk => ?_⟩
  obtain ⟨b, off, e, h6⟩ := h4 (by omega)
  obtain ⟨u, e2, hu⟩ := h5 k hk
  exact ⟨b, off, u, e, h6 k u e2, hu⟩

/-- Slices of ints of one's own, in a slice of one's own, no two in one block. -/
structure OwnSS (w : World) (base : Nat) (v : Value) (rows : List (List Int)) (us : List Value) : Prop where
  own : w.ownsRow base 23 1 v rows.length us
  row : ∀ k (hk : k < rows.length), ∃ u, us[k]? = some u ∧ OwnI w base u rows[k]
  sep : ∀ (i j : Nat) (u u' : Value), i < j → us[i]? = some u → us[j]? = some u' → ∀ g, u.ownBlock = some g → u'.ownBlock ≠ some g

theorem OwnSS.rowss {w : World} {base : Nat} {v : Value} {rows : List (List Int)} {us : List Value} (h : OwnSS w base v rows us) : Rowss w v rows :=
  ⟨us, Sl.of_own h.own, fun k hk => by obtain ⟨u, e, hu⟩ := h.row k hk; exact ⟨u, e, hu.ints⟩⟩
/-- The blocks that it owns. -/
def SSb (v : Value) (us : List Value) (k : Nat) : Prop := v.ownBlock = some k ∨ ∃ u ∈ us, u.ownBlock = some k
theorem OwnSS.keep {w w' : World} {base : Nat} {v : Value} {rows : List (List Int)} {us : List Value} (h : OwnSS w base v rows us) (hk : ∀ g, SSb v us g → w'.heap[g]? = w.heap[g]?) : OwnSS w' base v rows us := by
  refine ⟨own_keep h.own fun g hg => hk g (.inl hg), fun k hk' => ?_, h.sep⟩
  obtain ⟨u, e, hu⟩ := h.row k hk'
  exact ⟨u, e, own_keep hu fun g hg => hk g (.inr ⟨u, List.mem_of_getElem? e, hg⟩)⟩
theorem OwnSS.lt {w : World} {base : Nat} {v : Value} {rows : List (List Int)} {us : List Value} (h : OwnSS w base v rows us) : ∀ g, SSb v us g → base ≤ g ∧ g < w.heap.size := by
  rintro g (hg | ⟨u, hu, hg⟩)
  · exact own_lt h.own g hg
  · obtain ⟨k, hk, e⟩ := List.getElem_of_mem hu
    have hkr : k < rows.length := by have := h.own.1; omega
    obtain ⟨u', e', hu'⟩ := h.row k hkr
    rw [List.getElem?_eq_getElem hk, e] at e'
    simp at e'
    subst e'
    exact own_lt hu' g hg
theorem OwnSS.bl {w w' : World} {base : Nat} {v : Value} {rows : List (List Int)} {us : List Value} (h : OwnSS w base v rows us) (hb : Bl w w') : OwnSS w' base v rows us := h.keep fun g hg => hb.block g (h.lt g hg).2
theorem OwnSS.chg {S : Nat → Prop} {w w' : World} {base : Nat} {v : Value} {rows : List (List Int)} {us : List Value} (h : OwnSS w base v rows us) (hb : Chg S w w') (hs : ∀ g, SSb v us g → ¬ S g) : OwnSS w' base v rows us := h.keep fun g hg => hb.block g (h.lt g hg).2 (hs g hg)
theorem OwnSS.base {w : World} {base base' : Nat} {v : Value} {rows : List (List Int)} {us : List Value} (h : OwnSS w base v rows us) (hb : base' ≤ base) : OwnSS w base' v rows us :=
  ⟨own_base h.own hb, fun k hk => by obtain ⟨u, e, hu⟩ := h.row k hk; exact ⟨u, e, own_base hu hb⟩, h.sep⟩

theorem rowInfo : (Try.prog.info? 23).map (fun i => (i.zero, i.size, i.bytes)) = some (some (.slice none 0 0), 1, 24) := by kernel_rfl

def NewSS (w : World) (rows : List (List Int)) (e : Ending) (w' : World) : Prop := ∃ v us, e = .returned v ∧ OwnSS w' w.heap.size v rows us ∧ Bl w w'

/-- Rows that are told one by one. -/
structure PartSS (w : World) (base : Nat) (v : Value) (n : Nat) (rows : List (List Int)) (us : List Value) : Prop where
  own : w.ownsRow base 23 1 v n us
  row : ∀ k (hk : k < rows.length), ∃ u, us[k]? = some u ∧ OwnI w base u rows[k]
  sep : ∀ (i j : Nat) (u u' : Value), i < j → j < rows.length → us[i]? = some u → us[j]? = some u' → ∀ g, u.ownBlock = some g → u'.ownBlock ≠ some g


end Go.Proofs.Ytebkmegkdcnfaaa
