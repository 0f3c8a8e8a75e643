/- Lists of ints side by side: hands that are dealt to. -/
import Derived.Test.YtgjackalcajmjaaListOf
import Derived.Test.YtgjackalcajmjaaTurnPure
namespace Go.Proofs.Ytgjackalcajmjaa
open Go.RowKit

abbrev LT := Nat × List Nat × List Int
/-- The blocks of a list. -/
def LT.blk (t : LT) (b : Nat) : Prop := b ∈ t.1 :: t.2.1
/-- Lists of ints, each with blocks of its own that came since w. -/
structure HandsL (w wr : World) (L : List LT) : Prop where
  lc : ∀ t ∈ L, LC wr t.1 t.2.1 (t.2.2.map I)
  dis : ∀ (i j : Nat) (a b : LT), i < j → L[i]? = some a → L[j]? = some b → ∀ x, a.blk x → ¬ b.blk x
  ge : ∀ t ∈ L, ∀ x, t.blk x → w.heap.size ≤ x

theorem HandsL.lt {w wr : World} {L : List LT} (h : HandsL w wr L) {t : LT} (ht : t ∈ L) {x : Nat} (hx : t.blk x) : x < wr.heap.size := (h.lc t ht).lt hx
theorem HandsL.chg {S : Nat → Prop} {w wr w' : World} {L : List LT} (h : HandsL w wr L) (hc : Chg S wr w') (hs : ∀ t ∈ L, ∀ x, t.blk x → ¬ S x) : HandsL w w' L :=
  ⟨fun t ht => (h.lc t ht).chg hc fun b hb => hs t ht b hb, h.dis, h.ge⟩
theorem HandsL.bl {w wr w' : World} {L : List LT} (h : HandsL w wr L) (hb : Bl wr w') : HandsL w w' L := ⟨fun t ht => (h.lc t ht).bl hb, h.dis, h.ge⟩
theorem HandsL.ne_own {w wr : World} {L : List LT} (h : HandsL w wr L) {base : Nat} {e : TypeId} {sz n : Nat} {v : Value} {cs : List Value} (hv : wr.ownsRow base e sz v n cs) (h1 : e ≠ 65) (h2 : e ≠ 47) : ∀ t ∈ L, ∀ x, t.blk x → ¬ v.ownBlock = some x :=
  fun t ht x hx => (h.lc t ht).ne_own hv h1 h2 x hx
/-- Apart, whichever comes first. -/
theorem HandsL.apart {w wr : World} {L : List LT} (h : HandsL w wr L) {i j : Nat} {a b : LT} (hij : i ≠ j) (hi : L[i]? = some a) (hj : L[j]? = some b) : ∀ x, a.blk x → ¬ b.blk x := by
  intro x hx hx'
  rcases (by omega : i < j ∨ j < i) with h1 | h1
  · exact h.dis i j a b h1 hi hj x hx hx'
  · exact h.dis j i b a h1 hj hi x hx' hx
/-- A new list at the end. -/
theorem HandsL.more {w wr w1 : World} {L : List LT} {l : Nat} {es : List Nat} {xs : List Int} (h : HandsL w wr L) (hb : Bl wr w1) (hl : LC w1 l es (xs.map I)) (hge : ∀ b ∈ l :: es, wr.heap.size ≤ b) (hw : w.heap.size ≤ wr.heap.size) : HandsL w w1 (L ++ [(l, es, xs)]) := by
  refine ⟨fun t ht => ?_, fun i j a b hij hi hj x hx hx' => ?_, fun t ht x hx => ?_⟩
  · rcases List.mem_append.1 ht with ht | ht
    · exact (h.lc t ht).bl hb
    · simp at ht; subst ht; exact hl
  · have hjl := (List.getElem?_eq_some_iff.1 hj).1
    rw [List.length_append] at hjl
    simp only [List.length_cons, List.length_nil] at hjl
    rw [List.getElem?_append_left (by omega)] at hi
    rcases (by omega : j < L.length ∨ j = L.length) with h1 | h1
    · rw [List.getElem?_append_left h1] at hj
      exact h.dis i j a b hij hi hj x hx hx'
    · subst h1
      rw [List.getElem?_append_right (Nat.le_refl _)] at hj
      simp at hj; subst hj
      have h2 := h.lt (List.mem_of_getElem? hi) hx
      have h3 := hge x hx'
      omega
  · rcases List.mem_append.1 ht with ht | ht
    · exact h.ge t ht x hx
    · simp at ht; subst ht
      exact Nat.le_trans hw (hge x hx)
/-- One list has changed: it has a new block or fewer of them, and all the others are as they were. -/
theorem HandsL.set {w wr w1 : World} {L : List LT} (h : HandsL w wr L) {j : Nat} {t t' : LT} (hj : L[j]? = some t) (hl : LC w1 t'.1 t'.2.1 (t'.2.2.map I)) (hc : Chg t.blk wr w1) (hn : ∀ x, t'.blk x → t.blk x ∨ wr.heap.size ≤ x) (hw : w.heap.size ≤ wr.heap.size) : HandsL w w1 (L.set j t') := by
  have hjl := (List.getElem?_eq_some_iff.1 hj).1
  have hat : ∀ i a, (L.set j t')[i]? = some a → (i = j ∧ a = t') ∨ (i ≠ j ∧ L[i]? = some a) := by
    intro i a hi
    rw [List.getElem?_set] at hi
    by_cases hij : j = i
    · rw [if_pos hij, if_pos hjl] at hi
      exact .inl ⟨hij.symm, (Option.some.inj hi).symm⟩
    · rw [if_neg hij] at hi; exact .inr ⟨fun e => hij e.symm, hi⟩
  have hsep : ∀ i a, i ≠ j → L[i]? = some a → ∀ x, a.blk x → ¬ t'.blk x := by
    intro i a hij hi x hx hx'
    rcases hn x hx' with h1 | h1
    · exact h.apart hij hi hj x hx h1
    · have := h.lt (List.mem_of_getElem? hi) hx; omega
  refine ⟨fun a ha => ?_, fun i k a b hik hi hk x hx hx' => ?_, fun a ha x hx => ?_⟩
  · obtain ⟨i, hi⟩ := List.mem_iff_getElem?.1 ha
    rcases hat i a hi with ⟨_, rfl⟩ | ⟨h1, h2⟩
    · exact hl
    · exact (h.lc a (List.mem_of_getElem? h2)).chg hc fun b hb => h.apart h1 h2 hj b hb
  · rcases hat i a hi with ⟨h1, rfl⟩ | ⟨h1, h2⟩
    · rcases hat k b hk with ⟨h3, _⟩ | ⟨h3, h4⟩
      · omega
      · exact hsep k b h3 h4 x hx' hx
    · rcases hat k b hk with ⟨h3, rfl⟩ | ⟨h3, h4⟩
      · exact hsep i a h1 h2 x hx hx'
      · exact h.dis i k a b hik h2 h4 x hx hx'
  · obtain ⟨i, hi⟩ := List.mem_iff_getElem?.1 ha
    rcases hat i a hi with ⟨_, rfl⟩ | ⟨h1, h2⟩
    · rcases hn x hx with h3 | h3
      · exact h.ge t (List.mem_of_getElem? hj) x h3
      · omega
    · exact h.ge a (List.mem_of_getElem? h2) x hx
theorem set_map {α β : Type} (f : α → β) (L : List α) (j : Nat) (t : α) : (L.set j t).map f = (L.map f).set j (f t) := List.map_set
theorem set_same {α : Type} {L : List α} {j : Nat} {x : α} (h : L[j]? = some x) : L.set j x = L := by
  obtain ⟨hl, rfl⟩ := List.getElem?_eq_some_iff.1 h
  apply List.ext_getElem?
  intro i
  rw [List.getElem?_set]
  by_cases hi : j = i
  · subst hi; rw [if_pos rfl, if_pos hl, List.getElem?_eq_getElem hl]
  · rw [if_neg hi]

end Go.Proofs.Ytgjackalcajmjaa
