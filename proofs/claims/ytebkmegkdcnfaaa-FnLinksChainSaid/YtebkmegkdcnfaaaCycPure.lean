/- The cycles of a permutation of the numbers below n: plain lemmas. -/
import Derived.Test.YtebkmegkdcnfaaaPath
namespace Go.Proofs.Ytebkmegkdcnfaaa

/-- f is a permutation of the numbers below n, and g its inverse. -/
structure Perm2 (n : Nat) (f g : Nat → Nat) : Prop where
  fD : ∀ b, b < n → f b < n
  gD : ∀ b, b < n → g b < n
  gf : ∀ b, b < n → g (f b) = b
  fg : ∀ b, b < n → f (g b) = b

theorem nodup_le : ∀ n (l : List Nat), l.Nodup → (∀ x ∈ l, x < n) → l.length ≤ n := by
  intro n
  induction n with
  | zero =>
    intro l _ h
    cases l with
    | nil => exact Nat.le_refl _
    | cons x l => exact absurd (h x (by simp)) (by omega)
  | succ n ih =>
    intro l hn h
    by_cases hm : n ∈ l
    · have h1 := ih (l.erase n) (hn.erase n) (fun x hx => by
        have h2 := (hn.mem_erase_iff).1 hx
        have := h x h2.2
        omega)
      rw [List.length_erase_of_mem hm] at h1
      omega
    · have := ih l hn (fun x hx => by
        have := h x hx
        have : x ≠ n := fun e => hm (e ▸ hx)
        omega)
      omega

section
variable {n : Nat} {f g : Nat → Nat}

theorem Perm2.inj (h : Perm2 n f g) {a b : Nat} (ha : a < n) (hb : b < n) (e : f a = f b) : a = b := by
  rw [← h.gf a ha, e, h.gf b hb]

/-- Where a path that has not come back goes on. -/
theorem Perm2.fresh (h : Perm2 n f g) {k c : Nat} {L : List Nat} (hp : Path f k (k :: L) c) (hnd : (k :: L).Nodup) (hD : ∀ x ∈ k :: L, x < n) (hc : c ≠ k) : c ∉ k :: L := by
  intro hm
  obtain ⟨j, hj, e⟩ := List.getElem_of_mem hm
  cases j with
  | zero => exact hc e.symm
  | succ j =>
    have h1 := hp.get_succ j hj
    have h2 := hp.get_last (by simp)
    have h3 := h.inj (hD _ (List.getElem_mem (l := k :: L) (n := j) (by omega))) (hD _ (List.getElem_mem (l := k :: L) (n := (k :: L).length - 1) (by simp))) (by rw [h1, h2]; exact e)
    have h4 := (List.getElem_inj hnd).1 h3
    omega

/-- From each number a path comes back. -/
theorem Perm2.closes (h : Perm2 n f g) {k : Nat} : ∀ d (L : List Nat) c, n - (k :: L).length = d → Path f k (k :: L) c → (k :: L).Nodup → (∀ x ∈ k :: L, x < n) →
    ∃ A, Path f k (k :: A) k ∧ (k :: A).Nodup ∧ ∀ x ∈ k :: A, x < n := by
  intro d
  induction d with
  | zero =>
    intro L c hd hp hnd hD
    by_cases hc : c = k
    · subst hc; exact ⟨L, hp, hnd, hD⟩
    · exfalso
      have h1 := h.fresh hp hnd hD hc
      have hcn : c < n := by
        have h2 := hp.get_last (by simp)
        rw [← h2]; exact h.fD _ (hD _ (List.getElem_mem _))
      have := nodup_le n (c :: k :: L) (List.nodup_cons.2 ⟨h1, hnd⟩) (fun x hx => by
        rcases List.mem_cons.1 hx with rfl | hx
        · exact hcn
        · exact hD x hx)
      simp at this hd
      omega
  | succ d ih =>
    intro L c hd hp hnd hD
    by_cases hc : c = k
    · subst hc; exact ⟨L, hp, hnd, hD⟩
    · have h1 := h.fresh hp hnd hD hc
      have hcn : c < n := by
        have h2 := hp.get_last (by simp)
        rw [← h2]; exact h.fD _ (hD _ (List.getElem_mem _))
      have e : k :: (L ++ [c]) = (k :: L) ++ [c] := rfl
      refine ih (L ++ [c]) (f c) ?_ (by rw [e]; exact hp.append ⟨rfl, rfl⟩) ?_ ?_
      · simp at hd ⊢; omega
      · rw [e, List.nodup_append]
        exact ⟨hnd, by simp, fun a ha b hb => by simp at hb; subst hb; exact fun e => h1 (e ▸ ha)⟩
      · intro x hx
        rw [e, List.mem_append] at hx
        rcases hx with hx | hx
        · exact hD x hx
        · simp at hx; subst hx; exact hcn
theorem Perm2.cycle (h : Perm2 n f g) {k : Nat} (hk : k < n) : ∃ A, Path f k (k :: A) k ∧ (k :: A).Nodup ∧ ∀ x ∈ k :: A, x < n :=
  h.closes _ [] (f k) rfl ⟨rfl, rfl⟩ (by simp) (by simpa using hk)
end

/-- From x on, until k comes next. -/
def orb (f : Nat → Nat) (k : Nat) : Nat → Nat → List Nat
  | 0, _ => []
  | m + 1, x => x :: (if f x = k then [] else orb f k m (f x))
theorem orb_path {f : Nat → Nat} {k : Nat} : ∀ (B : List Nat) (x m : Nat), Path f x (x :: B) k → k ∉ B → (x :: B).length ≤ m → orb f k m x = x :: B := by
  intro B
  induction B with
  | nil =>
    intro x m hp _ hm
    cases m with
    | zero => simp at hm
    | succ m => have : f x = k := hp.2; simp [orb, this]
  | cons y B ih =>
    intro x m hp hk hm
    cases m with
    | zero => simp at hm
    | succ m =>
      have h1 : f x = y := hp.2.1
      have h2 : y ≠ k := fun e => hk (by simp [e])
      have h3 : Path f y (y :: B) k := ⟨rfl, hp.2.2⟩
      show x :: (if f x = k then [] else orb f k m (f x)) = _
      rw [h1, if_neg h2, ih y m h3 (fun e => hk (by simp [e])) (by simpa using hm)]
/-- The cycle of k. -/
def cyc (n : Nat) (f : Nat → Nat) (k : Nat) : List Nat := orb f k n k

/-- A cycle, from its first element on. -/
structure Cyc (n : Nat) (f : Nat → Nat) (k : Nat) (A : List Nat) : Prop where
  path : Path f k (k :: A) k
  nodup : (k :: A).Nodup
  lt : ∀ x ∈ k :: A, x < n
theorem Cyc.eq {n : Nat} {f : Nat → Nat} {k : Nat} {A : List Nat} (h : Cyc n f k A) : cyc n f k = k :: A :=
  orb_path A k n h.path (List.nodup_cons.1 h.nodup).1 (nodup_le n _ h.nodup h.lt)
theorem Perm2.cyc {n : Nat} {f g : Nat → Nat} (h : Perm2 n f g) {k : Nat} (hk : k < n) : ∃ A, Cyc n f k A := by
  obtain ⟨A, h1, h2, h3⟩ := h.cycle hk
  exact ⟨A, h1, h2, h3⟩
/-- A cycle goes through whatever follows one of its elements, and through what is ahead. -/
theorem Cyc.next {n : Nat} {f : Nat → Nat} {k : Nat} {A : List Nat} (h : Cyc n f k A) {x : Nat} (hx : x ∈ k :: A) : f x ∈ k :: A := by
  obtain ⟨j, hj, e⟩ := List.getElem_of_mem hx
  by_cases hj1 : j + 1 < (k :: A).length
  · rw [← e, h.path.get_succ j hj1]; exact List.getElem_mem _
  · have hlast := h.path.get_last (by simp)
    have : j = (k :: A).length - 1 := by omega
    subst this
    rw [← e, hlast]; simp
/-- Two cycles with one element have all of them in common. -/
theorem Cyc.sub {n : Nat} {f : Nat → Nat} {k l : Nat} {A B : List Nat} (h : Cyc n f k A) (h' : Cyc n f l B) {x : Nat} (hx : x ∈ k :: A) (hx' : x ∈ l :: B) : ∀ y ∈ l :: B, y ∈ k :: A := by
  have hstep : ∀ m y, y ∈ k :: A → iter f m y ∈ k :: A := by
    intro m
    induction m with
    | zero => intro y hy; exact hy
    | succ m ih => intro y hy; exact ih _ (h.next hy)
  intro y hy
  obtain ⟨i, hi, e⟩ := List.getElem_of_mem hx'
  obtain ⟨j, hj, e'⟩ := List.getElem_of_mem hy
  have hit : ∀ m (i : Nat) (hi : i + m < (l :: B).length), iter f m ((l :: B)[i]'(by omega)) = (l :: B)[i + m] := by
    intro m
    induction m with
    | zero => intro i hi; rfl
    | succ m ih =>
      intro i hi
      show iter f m (f _) = _
      rw [h'.path.get_succ i (by omega), ih (i + 1) (by omega)]
      congr 1; omega
  have hend : ∀ (i : Nat) (hi : i < (l :: B).length), iter f ((l :: B).length - i) (l :: B)[i] = l := by
    intro i hi
    have h1 := hit ((l :: B).length - 1 - i) i (by omega)
    have h2 : (l :: B).length - i = ((l :: B).length - 1 - i) + 1 := by omega
    rw [h2, iter_succ, h1]
    have h3 := h'.path.get_last (by simp)
    have h4 : i + ((l :: B).length - 1 - i) = (l :: B).length - 1 := by omega
    simp only [h4]
    exact h3
  have hl : l ∈ k :: A := by
    rw [← hend i hi, e]; exact hstep _ _ hx
  have h0 : (l :: B)[0] = l := rfl
  rw [← e']
  have := hit j 0 (by omega)
  rw [h0] at this
  simp only [Nat.zero_add] at this
  rw [← this]
  exact hstep _ _ hl

/-- One more number is looked at. -/
def cycStep (n : Nat) (f : Nat → Nat) (out : List (List Nat)) (k : Nat) : List (List Nat) := if k ∈ out.flatten then out else out ++ [cyc n f k]
def cycsTo (n : Nat) (f : Nat → Nat) (k : Nat) : List (List Nat) := (List.range k).foldl (cycStep n f) []
def cycs (n : Nat) (f : Nat → Nat) : List (List Nat) := cycsTo n f n
theorem cycsTo_succ (n : Nat) (f : Nat → Nat) (k : Nat) : cycsTo n f (k + 1) = cycStep n f (cycsTo n f k) k := by
  unfold cycsTo; rw [List.range_succ, List.foldl_append]; rfl

/-- What holds when the numbers below k have been looked at. -/
structure CInv (n : Nat) (f : Nat → Nat) (k : Nat) (out : List (List Nat)) : Prop where
  cyc : ∀ c ∈ out, ∃ j A, c = j :: A ∧ j < k ∧ Cyc n f j A ∧ ∀ x ∈ j :: A, j ≤ x
  nodup : out.flatten.Nodup
  all : ∀ j, j < k → j ∈ out.flatten
theorem CInv.lt {n : Nat} {f : Nat → Nat} {k : Nat} {out : List (List Nat)} (h : CInv n f k out) : ∀ x ∈ out.flatten, x < n := by
  intro x hx
  obtain ⟨c, hc, hxc⟩ := List.mem_flatten.1 hx
  obtain ⟨j, A, rfl, _, h1, _⟩ := h.cyc c hc
  exact h1.lt x hxc
/-- A number that is in none of the cycles: nor is what it leads to. -/
theorem CInv.apart {n : Nat} {f : Nat → Nat} {k : Nat} {out : List (List Nat)} (h : CInv n f k out) {j : Nat} {A : List Nat} (hc : Cyc n f j A) (hj : j ∉ out.flatten) : ∀ x ∈ j :: A, x ∉ out.flatten := by
  intro x hx hm
  obtain ⟨c, hc', hxc⟩ := List.mem_flatten.1 hm
  obtain ⟨i, B, rfl, _, h1, _⟩ := h.cyc c hc'
  exact hj (List.mem_flatten.2 ⟨_, hc', h1.sub hc hxc hx j (by simp)⟩)
theorem CInv.step {n : Nat} {f g : Nat → Nat} (hf : Perm2 n f g) {k : Nat} {out : List (List Nat)} (h : CInv n f k out) (hk : k < n) : CInv n f (k + 1) (cycStep n f out k) := by
  unfold cycStep
  by_cases hm : k ∈ out.flatten
  · rw [if_pos hm]
    refine ⟨fun c hc => ?_, h.nodup, fun j hj => ?_⟩
    · obtain ⟨j, A, e, h1, h2, h3⟩ := h.cyc c hc
      exact ⟨j, A, e, by omega, h2, h3⟩
    · rcases (by omega : j < k ∨ j = k) with h1 | rfl
      · exact h.all j h1
      · exact hm
  · rw [if_neg hm]
    obtain ⟨A, hA⟩ := hf.cyc hk
    have hap := h.apart hA hm
    rw [hA.eq]
    refine ⟨fun c hc => ?_, ?_, fun j hj => ?_⟩
    · rcases List.mem_append.1 hc with hc | hc
      · obtain ⟨j, B, e, h1, h2, h3⟩ := h.cyc c hc
        exact ⟨j, B, e, by omega, h2, h3⟩
      · simp at hc; subst hc
        refine ⟨k, A, rfl, by omega, hA, fun x hx => ?_⟩
        rcases Nat.lt_or_ge x k with h1 | h1
        · exact absurd (h.all x h1) (hap x hx)
        · exact h1
    · rw [List.flatten_append, List.nodup_append]
      refine ⟨h.nodup, by simpa using hA.nodup, fun a ha b hb e => ?_⟩
      subst e
      exact hap a (by simpa using hb) ha
    · rw [List.flatten_append, List.mem_append]
      rcases (by omega : j < k ∨ j = k) with h1 | rfl
      · exact .inl (h.all j h1)
      · exact .inr (by simp)
theorem cycsTo_inv {n : Nat} {f g : Nat → Nat} (hf : Perm2 n f g) : ∀ k, k ≤ n → CInv n f k (cycsTo n f k) := by
  intro k
  induction k with
  | zero => intro _; exact ⟨fun c hc => (by cases hc), List.nodup_nil, fun j hj => by omega⟩
  | succ k ih => intro hk; rw [cycsTo_succ]; exact (ih (by omega)).step hf (by omega)

end Go.Proofs.Ytebkmegkdcnfaaa
