/- Moves in an order: plain lemmas on other names, mirror images, undoing, and turning. -/
import Derived.Test.YthgghafndabpfaaPlayStep
namespace Go.Proofs.Ythgghafndabpfaa

/-- One move, of numbers that are told. -/
def stepRaw (q : Nat) (e m : Int) (x : List Int) : List Int :=
  if 2 ≤ q ∧ e = m then x
  else
    if q = 0 then ins (x.eraseIdx (x.idxOf e)) 0 e
    else if q = 1 then ins (x.eraseIdx (x.idxOf e)) (x.eraseIdx (x.idxOf e)).length e
    else if q = 2 then ins (x.eraseIdx (x.idxOf e)) ((x.eraseIdx (x.idxOf e)).idxOf m + 1) e
    else ins (x.eraseIdx (x.idxOf e)) ((x.eraseIdx (x.idxOf e)).idxOf m) e
theorem playStep_raw (n : Nat) (x : List Int) (m : Mv) : playStep n x m = stepRaw (ix m.1 4) (ix m.2.1 n : Nat) (ix m.2.2 n : Nat) x := by
  unfold playStep stepRaw
  have h : (2 ≤ ix m.1 4 ∧ ix m.2.1 n = ix m.2.2 n) ↔ (2 ≤ ix m.1 4 ∧ ((ix m.2.1 n : Nat) : Int) = (ix m.2.2 n : Nat)) := by constructor <;> (rintro ⟨h1, h2⟩; exact ⟨h1, by omega⟩)
  simp only [h]

/-- Where a number stands. -/
theorem idxOf_mid {A B : List Int} {e : Int} (h : e ∉ A) : (A ++ e :: B).idxOf e = A.length := by
  induction A with
  | nil => simp
  | cons a A ih =>
    have h1 : a ≠ e := fun x => h (by simp [x])
    have h2 : e ∉ A := fun x => h (by simp [x])
    rw [List.cons_append, List.idxOf_cons, ih h2]
    have : (a == e) = false := by rw [beq_eq_false_iff_ne]; exact h1
    rw [this]; simp
theorem erase_mid (A B : List Int) (e : Int) : (A ++ e :: B).eraseIdx A.length = A ++ B := by
  rw [List.eraseIdx_append_of_length_le (Nat.le_refl _)]; simp
theorem ins_mid (A B : List Int) (e : Int) : ins (A ++ B) A.length e = A ++ e :: B := by
  unfold ins; rw [List.take_left, List.drop_left]
theorem split_mem {x : List Int} {e : Int} (h : e ∈ x) : ∃ A B, x = A ++ e :: B ∧ e ∉ A := by
  induction x with
  | nil => cases h
  | cons a x ih =>
    by_cases ha : a = e
    · subst ha; exact ⟨[], x, rfl, by simp⟩
    · rcases List.mem_cons.1 h with h | h
      · exact absurd h.symm ha
      · obtain ⟨A, B, h1, h2⟩ := ih h
        refine ⟨a :: A, B, by rw [h1]; rfl, fun hm => ?_⟩
        rcases List.mem_cons.1 hm with hm | hm
        · exact ha hm.symm
        · exact h2 hm
/-- The moves, told by parts. -/
theorem raw_front {A B : List Int} {e m : Int} (h : e ∉ A) : stepRaw 0 e m (A ++ e :: B) = e :: (A ++ B) := by
  unfold stepRaw
  rw [if_neg (by omega), if_pos rfl, idxOf_mid h, erase_mid]; rfl
theorem raw_back {A B : List Int} {e m : Int} (h : e ∉ A) : stepRaw 1 e m (A ++ e :: B) = (A ++ B) ++ [e] := by
  unfold stepRaw
  rw [if_neg (by omega), if_neg (by omega), if_pos rfl, idxOf_mid h, erase_mid]
  unfold ins
  rw [List.take_length, List.drop_length]
theorem raw_after {A B C D : List Int} {e m : Int} (h : e ∉ A) (hem : e ≠ m) (hs : A ++ B = C ++ m :: D) (hC : m ∉ C) : stepRaw 2 e m (A ++ e :: B) = C ++ m :: e :: D := by
  unfold stepRaw
  rw [if_neg (fun x => hem x.2), if_neg (by omega), if_neg (by omega), if_pos rfl, idxOf_mid h, erase_mid, hs, idxOf_mid hC]
  have : C ++ m :: D = (C ++ [m]) ++ D := by simp
  have h2 : C.length + 1 = (C ++ [m]).length := by simp
  rw [this, h2, ins_mid]; simp
theorem raw_before {A B C D : List Int} {e m : Int} (h : e ∉ A) (hem : e ≠ m) (hs : A ++ B = C ++ m :: D) (hC : m ∉ C) : stepRaw 3 e m (A ++ e :: B) = C ++ e :: m :: D := by
  unfold stepRaw
  rw [if_neg (fun x => hem x.2), if_neg (by omega), if_neg (by omega), if_neg (by omega), idxOf_mid h, erase_mid, hs, idxOf_mid hC, ins_mid]
theorem raw_none {x : List Int} {e m : Int} {q : Nat} (hq : 2 ≤ q) (hem : e = m) : stepRaw q e m x = x := by
  unfold stepRaw; rw [if_pos ⟨hq, hem⟩]

/-- The same moves of other numbers. -/
theorem idxOf_map {σ : Int → Int} {x : List Int} {e : Int} (h : ∀ a ∈ x, σ a = σ e → a = e) : (x.map σ).idxOf (σ e) = x.idxOf e := by
  induction x with
  | nil => rfl
  | cons a x ih =>
    rw [List.map_cons, List.idxOf_cons, List.idxOf_cons, ih (fun b hb => h b (List.mem_cons_of_mem _ hb))]
    by_cases ha : a = e
    · subst ha; simp
    · have h1 : (σ a == σ e) = false := by rw [beq_eq_false_iff_ne]; exact fun x => ha (h a (by simp) x)
      have h2 : (a == e) = false := by rw [beq_eq_false_iff_ne]; exact ha
      rw [h1, h2]
theorem map_erase (σ : Int → Int) (x : List Int) (i : Nat) : (x.map σ).eraseIdx i = (x.eraseIdx i).map σ := by
  rw [List.eraseIdx_eq_take_drop_succ, List.eraseIdx_eq_take_drop_succ, List.map_append, List.map_take, List.map_drop]
theorem map_ins (σ : Int → Int) (x : List Int) (i : Nat) (e : Int) : ins (x.map σ) i (σ e) = (ins x i e).map σ := by
  unfold ins; rw [List.map_append, List.map_cons, List.map_take, List.map_drop]
theorem raw_map {σ : Int → Int} {x : List Int} {q : Nat} {e m : Int} (he : ∀ a ∈ x, σ a = σ e → a = e) (hm : ∀ a ∈ x, σ a = σ m → a = m) (hem : σ e = σ m → e = m) : stepRaw q (σ e) (σ m) (x.map σ) = (stepRaw q e m x).map σ := by
  have hc : (2 ≤ q ∧ σ e = σ m) ↔ (2 ≤ q ∧ e = m) := ⟨fun h => ⟨h.1, hem h.2⟩, fun h => ⟨h.1, by rw [h.2]⟩⟩
  unfold stepRaw
  simp only [hc, idxOf_map he, map_erase, List.length_map]
  rw [idxOf_map (fun a ha => hm a (List.mem_of_mem_eraseIdx ha))]
  simp only [map_ins]
  split
  · rfl
  · split
    · rfl
    · split
      · rfl
      · split <;> rfl

/-- The move with front and back, ahead and behind exchanged. -/
def mirQ (q : Nat) : Nat := q / 2 * 2 + 1 - q % 2
theorem raw_reverse {x : List Int} {q : Nat} (hq : q < 4) {e m : Int} (hx : x.Nodup) (he : e ∈ x) (hm : m ∈ x) : stepRaw (mirQ q) e m x.reverse = (stepRaw q e m x).reverse := by
  obtain ⟨A, B, rfl, hA⟩ := split_mem he
  have hB : e ∉ B := by
    have := (List.nodup_append.1 hx).2.1
    exact (List.nodup_cons.1 this).1
  have hr : (A ++ e :: B).reverse = B.reverse ++ e :: A.reverse := by simp
  have hB' : e ∉ B.reverse := by simpa using hB
  rw [hr]
  by_cases hem : e = m
  · rcases (by omega : q = 0 ∨ q = 1 ∨ q = 2 ∨ q = 3) with rfl | rfl | rfl | rfl
    · rw [raw_front hA, show mirQ 0 = 1 from rfl, raw_back hB']; simp
    · rw [raw_back hA, show mirQ 1 = 0 from rfl, raw_front hB']; simp
    · rw [raw_none (by decide) hem, raw_none (by decide) hem, hr]
    · rw [raw_none (by decide) hem, raw_none (by decide) hem, hr]
  · have hmAB : m ∈ A ++ B := by
      have : m ∈ A ++ e :: B := hm
      simp only [List.mem_append, List.mem_cons] at this ⊢
      rcases this with h | h | h
      · exact .inl h
      · exact absurd h.symm hem
      · exact .inr h
    obtain ⟨C, D, hs, hC⟩ := split_mem hmAB
    have hnd : (A ++ B).Nodup := by
      refine hx.sublist ?_
      exact List.Sublist.append (List.Sublist.refl A) (List.sublist_cons_self e B)
    have hD : m ∉ D := by
      rw [hs] at hnd
      exact (List.nodup_cons.1 (List.nodup_append.1 hnd).2.1).1
    have hs' : B.reverse ++ A.reverse = D.reverse ++ m :: C.reverse := by
      rw [← List.reverse_append, hs]; simp
    have hD' : m ∉ D.reverse := by simpa using hD
    rcases (by omega : q = 0 ∨ q = 1 ∨ q = 2 ∨ q = 3) with rfl | rfl | rfl | rfl
    · rw [raw_front hA, show mirQ 0 = 1 from rfl, raw_back hB']; simp
    · rw [raw_back hA, show mirQ 1 = 0 from rfl, raw_front hB']; simp
    · rw [raw_after hA hem hs hC, show mirQ 2 = 3 from rfl, raw_before hB' hem hs' hD']; simp
    · rw [raw_before hA hem hs hC, show mirQ 3 = 2 from rfl, raw_after hB' hem hs' hD']; simp

/-- A number that has been moved, taken out: all the others stand as they stood. -/
theorem raw_erase {x : List Int} {q : Nat} {e m : Int} (hx : x.Nodup) (he : e ∈ x) : ∃ A B A' B', x = A ++ e :: B ∧ e ∉ A ∧ stepRaw q e m x = A' ++ e :: B' ∧ e ∉ A' ∧ A' ++ B' = A ++ B := by
  obtain ⟨A, B, rfl, hA⟩ := split_mem he
  have hB : e ∉ B := (List.nodup_cons.1 (List.nodup_append.1 hx).2.1).1
  have hins : ∀ j, ∃ A' B', ins (A ++ B) j e = A' ++ e :: B' ∧ e ∉ A' ∧ A' ++ B' = A ++ B := fun j =>
    ⟨(A ++ B).take j, (A ++ B).drop j, rfl, fun h => by
      have := List.mem_of_mem_take h
      rcases List.mem_append.1 this with h | h
      · exact hA h
      · exact hB h, List.take_append_drop _ _⟩
  have hcase : stepRaw q e m (A ++ e :: B) = A ++ e :: B ∨ ∃ j, stepRaw q e m (A ++ e :: B) = ins (A ++ B) j e := by
    unfold stepRaw
    rw [idxOf_mid hA, erase_mid]
    split
    · exact .inl rfl
    · split
      · exact .inr ⟨_, rfl⟩
      · split
        · exact .inr ⟨_, rfl⟩
        · split
          · exact .inr ⟨_, rfl⟩
          · exact .inr ⟨_, rfl⟩
  rcases hcase with h | ⟨j, h⟩
  · exact ⟨A, B, A, B, rfl, hA, h, hA, rfl⟩
  · obtain ⟨A', B', h1, h2, h3⟩ := hins j
    exact ⟨A, B, A', B', rfl, hA, h.trans h1, h2, h3⟩

/-- The move back: behind the one ahead, or to the front. -/
def backOf (x : List Int) (e : Int) : Nat × Int × Int := if x.idxOf e = 0 then (0, e, 0) else (2, e, x.getD (x.idxOf e - 1) 0)
theorem raw_undo {x : List Int} {q : Nat} {e m : Int} (hx : x.Nodup) (he : e ∈ x) : stepRaw (backOf x e).1 (backOf x e).2.1 (backOf x e).2.2 (stepRaw q e m x) = x := by
  obtain ⟨A, B, A', B', rfl, hA, h1, hA', h2⟩ := raw_erase (q := q) (m := m) hx he
  rw [h1]
  unfold backOf
  rw [idxOf_mid hA]
  by_cases h0 : A.length = 0
  · obtain rfl := List.eq_nil_of_length_eq_zero h0
    simp only [List.length_nil, if_true]
    rw [raw_front hA', h2]; rfl
  · rw [if_neg h0]
    obtain ⟨n, hn⟩ : ∃ n, A.length = n + 1 := ⟨A.length - 1, by omega⟩
    have hne : A ≠ [] := fun x => h0 (by rw [x]; rfl)
    have hAl : A = A.dropLast ++ [A.getLast hne] := (List.dropLast_concat_getLast hne).symm
    generalize A.dropLast = C at hAl
    generalize A.getLast hne = p at hAl
    subst hAl
    have hg : ((C ++ [p]) ++ e :: B).getD ((C ++ [p]).length - 1) 0 = p := by
      rw [List.getD_eq_getElem?_getD]
      have : (C ++ [p]).length - 1 = C.length := by simp
      rw [this, List.append_assoc, List.getElem?_append_right (Nat.le_refl _)]; simp
    simp only [hg]
    have hep : e ≠ p := fun x => hA (by simp [x])
    have hpC : p ∉ C := by
      have h3 := (List.nodup_append.1 hx).1
      exact fun h => (List.nodup_append.1 h3).2.2 p h p (by simp) rfl
    rw [raw_after hA' hep (C := C) (D := B) (by rw [h2]; simp) hpC]
    simp

end Go.Proofs.Ythgghafndabpfaa
