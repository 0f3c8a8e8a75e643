/- The number of rings, and what a link does to them: plain lemmas. -/
import Derived.Test.YtebkmegkdcnfaaaCycPure
namespace Go.Proofs.Ytebkmegkdcnfaaa

/-- All rings, in whatever order, each from whatever element on. -/
structure Rings (n : Nat) (f : Nat → Nat) (out : List (List Nat)) : Prop where
  cyc : ∀ c ∈ out, ∃ j A, c = j :: A ∧ Cyc n f j A
  nodup : out.flatten.Nodup
  all : ∀ j, j < n → j ∈ out.flatten

section
variable {n : Nat} {f g : Nat → Nat} {out out' : List (List Nat)}

theorem CInv.rings (h : CInv n f n out) : Rings n f out :=
  ⟨fun c hc => by obtain ⟨j, A, e, _, h1, _⟩ := h.cyc c hc; exact ⟨j, A, e, h1⟩, h.nodup, h.all⟩
theorem Rings.perm (h : Rings n f out) (hp : out.Perm out') : Rings n f out' :=
  ⟨fun c hc => h.cyc c (hp.mem_iff.2 hc), hp.flatten.nodup h.nodup, fun j hj => hp.flatten.mem_iff.1 (h.all j hj)⟩
theorem Rings.lt (h : Rings n f out) : ∀ x ∈ out.flatten, x < n := by
  intro x hx
  obtain ⟨c, hc, hxc⟩ := List.mem_flatten.1 hx
  obtain ⟨j, A, rfl, h1⟩ := h.cyc c hc
  exact h1.lt x hxc
theorem Rings.range (h : Rings n f out) : out.flatten.Perm (List.range n) :=
  (List.perm_ext_iff_of_nodup h.nodup List.nodup_range).2 fun x => ⟨fun hx => List.mem_range.2 (h.lt x hx), fun hx => h.all x (List.mem_range.1 hx)⟩

/-- A ring from another element on. -/
theorem Cyc.rot {j : Nat} {A : List Nat} (h : Cyc n f j A) {a : Nat} (ha : a ∈ j :: A) : ∃ B, Cyc n f a B ∧ (j :: A).Perm (a :: B) := by
  obtain ⟨X, Y, e⟩ := List.append_of_mem ha
  have h1 := h.path
  have h2 := h.nodup
  have h3 := h.lt
  rw [e] at h1 h2 h3 ⊢
  have hp : (X ++ a :: Y).Perm (a :: (Y ++ X)) := List.perm_append_comm
  exact ⟨Y ++ X, ⟨h1.turns rfl, hp.nodup h2, fun x hx => h3 x (hp.mem_iff.2 hx)⟩, hp⟩
theorem Cyc.mem_iff {j k : Nat} {A B : List Nat} (h : Cyc n f j A) (h' : Cyc n f k B) {x : Nat} (hx : x ∈ j :: A) (hx' : x ∈ k :: B) (y : Nat) : y ∈ j :: A ↔ y ∈ k :: B :=
  ⟨fun hy => h'.sub h hx' hx y hy, fun hy => h.sub h' hx hx' y hy⟩

/-- The ring of an element comes first. -/
theorem Rings.at (h : Rings n f out) {a : Nat} (ha : a < n) : ∃ A rest, Rings n f ((a :: A) :: rest) ∧ rest.length + 1 = out.length := by
  obtain ⟨c, hc, hac⟩ := List.mem_flatten.1 (h.all a ha)
  obtain ⟨j, A, rfl, h1⟩ := h.cyc c hc
  have hp := List.perm_cons_erase hc
  have h2 := h.perm hp
  obtain ⟨B, hB, hpB⟩ := h1.rot hac
  refine ⟨B, out.erase (j :: A), ⟨fun c hc => ?_, ?_, fun x hx => ?_⟩, ?_⟩
  · rcases List.mem_cons.1 hc with rfl | hc
    · exact ⟨a, B, rfl, hB⟩
    · exact h2.cyc c (List.mem_cons_of_mem _ hc)
  · have hq : ((j :: A) :: out.erase (j :: A)).flatten.Perm ((a :: B) :: out.erase (j :: A)).flatten := by
      rw [List.flatten_cons, List.flatten_cons]; exact hpB.append_right _
    exact hq.nodup h2.nodup
  · have hq : ((j :: A) :: out.erase (j :: A)).flatten.Perm ((a :: B) :: out.erase (j :: A)).flatten := by
      rw [List.flatten_cons, List.flatten_cons]; exact hpB.append_right _
    exact hq.mem_iff.1 (h2.all x hx)
  · have := hp.length_eq
    rw [List.length_cons] at this
    omega
theorem Rings.at2 {a b : Nat} {A : List Nat} {rest : List (List Nat)} (h : Rings n f ((a :: A) :: rest)) (hb : b < n) (hn : b ∉ a :: A) :
    ∃ B rest', Rings n f ((a :: A) :: (b :: B) :: rest') ∧ rest'.length + 1 = rest.length := by
  have h0 := h.all b hb
  rw [List.flatten_cons, List.mem_append] at h0
  obtain ⟨c, hc, hbc⟩ := List.mem_flatten.1 (h0.resolve_left hn)
  obtain ⟨j, C, rfl, h1⟩ := h.cyc c (List.mem_cons_of_mem _ hc)
  have hp := (List.perm_cons_erase hc).cons (a :: A)
  have h2 := h.perm hp
  obtain ⟨B, hB, hpB⟩ := h1.rot hbc
  have hq : ((a :: A) :: (j :: C) :: rest.erase (j :: C)).flatten.Perm ((a :: A) :: (b :: B) :: rest.erase (j :: C)).flatten := by
    simp only [List.flatten_cons]; exact (hpB.append_right _).append_left _
  refine ⟨B, rest.erase (j :: C), ⟨fun c hc => ?_, hq.nodup h2.nodup, fun x hx => hq.mem_iff.1 (h2.all x hx)⟩, ?_⟩
  · rcases List.mem_cons.1 hc with rfl | hc
    · exact h2.cyc _ (List.mem_cons_self ..)
    · rcases List.mem_cons.1 hc with rfl | hc
      · exact ⟨b, B, rfl, hB⟩
      · exact h2.cyc c (List.mem_cons_of_mem _ (List.mem_cons_of_mem _ hc))
  · have := (List.perm_cons_erase hc).length_eq
    rw [List.length_cons] at this
    omega

/-- An element that is the least one of its ring. -/
def least (n : Nat) (f : Nat → Nat) (x : Nat) : Bool := (cyc n f x).all fun y => decide (x ≤ y)
theorem count_least (c : List Nat) (hn : c.Nodup) (h0 : c ≠ []) : c.countP (fun x => c.all fun y => decide (x ≤ y)) = 1 := by
  obtain ⟨m, hm⟩ : ∃ m, c.min? = some m := by
    cases c with
    | nil => exact absurd rfl h0
    | cons x c => exact ⟨_, rfl⟩
  have hmem := List.min?_mem hm
  have hle : ∀ y ∈ c, m ≤ y := by
    intro y hy
    exact (List.min?_eq_some_iff.1 hm).2 y hy
  have h1 : c.countP (fun x => c.all fun y => decide (x ≤ y)) = c.count m := by
    unfold List.count
    apply List.countP_congr
    intro x hx
    simp only [List.all_eq_true, decide_eq_true_eq, beq_iff_eq]
    constructor
    · intro h; have h1 := h m hmem; have h2 := hle x hx; omega
    · intro e; subst e; exact hle
  rw [h1, hn.count, if_pos hmem]
theorem Rings.count (h : Rings n f out) : out.length = (List.range n).countP (least n f) := by
  rw [← h.range.countP_eq, List.countP_flatten]
  have h1 : ∀ c ∈ out, c.countP (least n f) = 1 := by
    intro c hc
    obtain ⟨j, A, rfl, hj⟩ := h.cyc c hc
    rw [← count_least (j :: A) hj.nodup (by simp)]
    apply List.countP_congr
    intro x hx
    obtain ⟨B, hB, hp⟩ := hj.rot hx
    unfold least
    rw [hB.eq]
    simp only [List.all_eq_true, decide_eq_true_eq]
    exact ⟨fun h y hy => h y (hp.mem_iff.1 hy), fun h y hy => h y (hp.mem_iff.2 hy)⟩
  clear h
  induction out with
  | nil => rfl
  | cons c out ih =>
    rw [List.map_cons, List.sum_cons, h1 c (by simp), ← ih (fun d hd => h1 d (by simp [hd])), List.length_cons]
    omega
theorem nodup_of_flatten {c : List Nat} (hn : out.flatten.Nodup) (hc : c ∈ out) : c.Nodup := by
  obtain ⟨s, t, rfl⟩ := List.append_of_mem hc
  rw [List.flatten_append, List.flatten_cons, List.nodup_append, List.nodup_append] at hn
  exact hn.2.1.1
/-- Some rings are replaced by others with the same elements. -/
theorem Rings.replace {old new rest : List (List Nat)} {f' : Nat → Nat} (h : Rings n f (old ++ rest)) (hag : ∀ x, x ∉ old.flatten → f' x = f x)
    (hnew : ∀ c ∈ new, ∃ j A, c = j :: A ∧ Path f' j (j :: A) j) (hp : old.flatten.Perm new.flatten) : Rings n f' (new ++ rest) := by
  have hq : (old ++ rest).flatten.Perm (new ++ rest).flatten := by
    rw [List.flatten_append, List.flatten_append]; exact hp.append_right _
  have hnd := hq.nodup h.nodup
  refine ⟨fun c hc => ?_, hnd, fun x hx => hq.mem_iff.1 (h.all x hx)⟩
  have hcn := nodup_of_flatten hnd hc
  have hlt : ∀ x ∈ c, x < n := fun x hx => h.lt x (hq.mem_iff.2 (List.mem_flatten.2 ⟨c, hc, hx⟩))
  rcases List.mem_append.1 hc with hc | hc
  · obtain ⟨j, A, rfl, hj⟩ := hnew c hc
    exact ⟨j, A, rfl, hj, hcn, hlt⟩
  · obtain ⟨j, A, rfl, hj⟩ := h.cyc c (List.mem_append_right _ hc)
    refine ⟨j, A, rfl, hj.path.congr fun x hx => hag x fun hm => ?_, hcn, hlt⟩
    have h1 := h.nodup
    rw [List.flatten_append, List.nodup_append] at h1
    exact h1.2.2 x hm x (List.mem_flatten.2 ⟨_, hc, hx⟩) rfl
/-- A link within a ring makes one more of it. -/
theorem Rings.split (hf : Perm2 n f g) {a b : Nat} {A : List Nat} {rest : List (List Nat)} (h : Rings n f ((a :: A) :: rest)) (hb : b ∈ a :: A) (hne : f a ≠ b) :
    ∃ B C, Rings n (upd (upd f a b) (g b) (f a)) ((a :: B) :: (f a :: C) :: rest) := by
  obtain ⟨j, A', e, hc⟩ := h.cyc (a :: A) (by simp)
  obtain ⟨rfl, rfl⟩ := List.cons.inj e
  have hnd := hc.nodup
  have hbn := hc.lt b hb
  have hgb : g b ∈ a :: A := by
    obtain ⟨k, hk, e⟩ := List.getElem_of_mem hb
    cases k with
    | zero =>
      have h1 := hc.path.get_last (by simp)
      have h2 : b = a := e.symm
      subst h2
      have h3 : g b = (b :: A)[(b :: A).length - 1]'(by simp) := by
        have h4 := hf.gf _ (hc.lt _ (List.getElem_mem (l := b :: A) (n := (b :: A).length - 1) (by simp)))
        rw [h1] at h4; exact h4
      rw [h3]; exact List.getElem_mem _
    | succ k =>
      have h1 := hc.path.get_succ k hk
      have h3 : g b = (a :: A)[k] := by
        have h4 := hf.gf _ (hc.lt _ (List.getElem_mem (l := a :: A) (n := k) (by omega)))
        rw [h1, e] at h4; exact h4
      rw [h3]; exact List.getElem_mem _
  have hag : ∀ x, x ∉ [a :: A].flatten → upd (upd f a b) (g b) (f a) x = f x := by
    intro x hx
    have hx' : x ∉ a :: A := by simpa using hx
    have n1 : x ≠ g b := fun e => hx' (e ▸ hgb)
    have n2 : x ≠ a := fun e => hx' (e ▸ List.mem_cons_self ..)
    rw [upd_other _ _ n1, upd_other _ _ n2]
  rcases List.mem_cons.1 hb with hba | hbA
  · subst hba
    have hA0 : A ≠ [] := by
      rintro rfl
      exact hne hc.path.2
    obtain ⟨X, p, hX⟩ : ∃ X p, A = X ++ [p] := ⟨A.dropLast, A.getLast hA0, (List.dropLast_concat_getLast hA0).symm⟩
    subst hX
    have hfp : f p = b := Path.last (l := b :: X) hc.path
    have hpn : p < n := hc.lt p (by simp)
    have hgp : g b = p := by rw [← hfp, hf.gf p hpn]
    have hbp : b ≠ p := fun e => (List.nodup_cons.1 hnd).1 (by simp [e])
    have hpX : p ∉ X := fun e => by
      have h1 := (List.nodup_append.1 (List.nodup_cons.1 hnd).2).2.2 p e p (by simp)
      exact h1 rfl
    have hbX : b ∉ X ++ [p] := (List.nodup_cons.1 hnd).1
    rw [hgp] at hag ⊢
    have hpath : Path (upd (upd f b b) p (f b)) (f b) (X ++ [p]) (f b) := (Path.upd_far hc.path.2 hbX b).upd_last hpX (f b)
    have hCx : ∃ C, X ++ [p] = f b :: C := by
      cases hXp : X ++ [p] with
      | nil => simp at hXp
      | cons y C => rw [hXp] at hpath; exact ⟨C, by rw [← hpath.1]⟩
    obtain ⟨C, hC⟩ := hCx
    refine ⟨[], C, h.replace (old := [b :: (X ++ [p])]) (new := [[b], f b :: C]) hag ?_ ?_⟩
    · intro c hc'
      simp only [List.mem_cons, List.not_mem_nil, or_false] at hc'
      rcases hc' with rfl | rfl
      · refine ⟨b, [], rfl, rfl, ?_⟩
        show upd (upd f b b) p (f b) b = b
        rw [upd_other _ _ hbp, upd_same]
      · exact ⟨f b, C, rfl, by rw [← hC]; exact hpath⟩
    · rw [← hC]; simp
  · obtain ⟨X, Y, hX⟩ := List.append_of_mem hbA
    subst hX
    have hX0 : X ≠ [] := by
      rintro rfl
      exact hne hc.path.2.1
    obtain ⟨X', p, hXp⟩ : ∃ X' p, X = X' ++ [p] := ⟨X.dropLast, X.getLast hX0, (List.dropLast_concat_getLast hX0).symm⟩
    subst hXp
    have hfp : f p = b := by
      obtain ⟨c, h1, h2⟩ := Path.append_iff.1 hc.path.2
      rw [h1.last]; exact h2.1
    have hpn : p < n := hc.lt p (by simp)
    have hgp : g b = p := by rw [← hfp, hf.gf p hpn]
    rw [hgp] at hag ⊢
    obtain ⟨h1, h2⟩ := Path.unlink (r := a) (s := b) (p := p) (A := X') (B := Y) hc.path hnd
    have hCx : ∃ C, X' ++ [p] = f a :: C := by
      cases hXp : X' ++ [p] with
      | nil => simp at hXp
      | cons y C => rw [hXp] at h2; exact ⟨C, by rw [← h2.1]⟩
    obtain ⟨C, hC⟩ := hCx
    refine ⟨b :: Y, C, h.replace (old := [a :: (X' ++ [p] ++ b :: Y)]) (new := [a :: b :: Y, f a :: C]) hag ?_ ?_⟩
    · intro c hc'
      simp only [List.mem_cons, List.not_mem_nil, or_false] at hc'
      rcases hc' with rfl | rfl
      · exact ⟨a, b :: Y, rfl, h1⟩
      · exact ⟨f a, C, rfl, by rw [← hC]; exact h2⟩
    · rw [← hC]
      simp only [List.flatten_cons, List.flatten_nil, List.append_nil, List.cons_append]
      refine List.Perm.cons a ?_
      rw [← List.cons_append]
      exact List.perm_append_comm
/-- A link between two rings makes one of them. -/
theorem Rings.merge (hf : Perm2 n f g) {a b : Nat} {A B : List Nat} {rest : List (List Nat)} (h : Rings n f ((a :: A) :: (b :: B) :: rest)) :
    ∃ C, b ∈ C ∧ Rings n (upd (upd f a b) (g b) (f a)) ((a :: C) :: rest) := by
  obtain ⟨j, A', e, hc⟩ := h.cyc (a :: A) (by simp)
  obtain ⟨rfl, rfl⟩ := List.cons.inj e
  obtain ⟨j, A', e, hd⟩ := h.cyc (b :: B) (by simp)
  obtain ⟨rfl, rfl⟩ := List.cons.inj e
  obtain ⟨X, p, hXp⟩ : ∃ X p, b :: B = X ++ [p] := ⟨(b :: B).dropLast, (b :: B).getLast (by simp), (List.dropLast_concat_getLast (by simp)).symm⟩
  have hdp := hd.path
  have hdn := hd.nodup
  have hn0 := h.nodup
  simp only [List.flatten_cons] at hn0
  rw [List.nodup_append] at hn0
  have hdis : ∀ x ∈ a :: A, ∀ y ∈ b :: B, x ≠ y := fun x hx y hy => hn0.2.2 x hx y (List.mem_append_left _ hy)
  have hpm : p ∈ b :: B := by rw [hXp]; simp
  have hbX : b ∈ X ++ [p] := by rw [← hXp]; simp
  have hpn := hd.lt p hpm
  rw [hXp] at hdp hdn
  have hgp : g b = p := by rw [← hdp.last, hf.gf p hpn]
  have hpX : p ∉ X := fun e => (List.nodup_append.1 hdn).2.2 p e p (by simp) rfl
  have haB : a ∉ X ++ [p] := fun e => hdis a (by simp) a (by rw [hXp]; exact e) rfl
  have hpA : p ∉ A := fun e => hdis p (List.mem_cons_of_mem _ e) p hpm rfl
  rw [hgp]
  have h1 := Path.link hc.path hdp haB hpA hpX (List.nodup_cons.1 hc.nodup).1
  refine ⟨X ++ [p] ++ A, List.mem_append_left _ hbX, h.replace (old := [a :: A, b :: B]) (new := [a :: (X ++ [p] ++ A)]) ?_ ?_ ?_⟩
  · intro x hx
    simp only [List.flatten_cons, List.flatten_nil, List.append_nil, List.mem_append, not_or] at hx
    have n1 : x ≠ p := fun e => hx.2 (e ▸ hpm)
    have n2 : x ≠ a := fun e => hx.1 (e ▸ List.mem_cons_self ..)
    rw [upd_other _ _ n1, upd_other _ _ n2]
  · intro c hc'
    simp only [List.mem_cons, List.not_mem_nil, or_false] at hc'
    subst hc'
    exact ⟨a, _, rfl, h1⟩
  · rw [hXp]
    simp only [List.flatten_cons, List.flatten_nil, List.append_nil, List.cons_append]
    exact List.Perm.cons a List.perm_append_comm
theorem Rings.same (h : Rings n f out) (h' : Rings n f out') : out.length = out'.length := h.count.trans h'.count.symm
end

end Go.Proofs.Ytebkmegkdcnfaaa
