/- Plain lemmas on chains: following f from a goes through l and comes to b. -/
namespace Go.Proofs.Ythgghafndabpfaa

/-- f with another value at one place. -/
def upd (f : Nat → Nat) (i v : Nat) : Nat → Nat := fun k => if k = i then v else f k
theorem upd_same (f : Nat → Nat) (i v : Nat) : upd f i v i = v := by simp [upd]
theorem upd_other (f : Nat → Nat) {i k : Nat} (v : Nat) (h : k ≠ i) : upd f i v k = f k := by simp [upd, h]

/-- Following f from a on goes through l and comes to b. -/
def Path (f : Nat → Nat) : Nat → List Nat → Nat → Prop
  | a, [], b => a = b
  | a, x :: l, b => a = x ∧ Path f (f x) l b

section
variable {f g : Nat → Nat} {a b c x y : Nat} {l m : List Nat}

theorem Path.nil_iff : Path f a [] b ↔ a = b := Iff.rfl
theorem Path.cons_iff : Path f a (x :: l) b ↔ a = x ∧ Path f (f x) l b := Iff.rfl

theorem Path.append_iff : Path f a (l ++ m) b ↔ ∃ c, Path f a l c ∧ Path f c m b := by
  induction l generalizing a with
  | nil => simp [Path]
  | cons x l ih =>
    simp only [List.cons_append, Path, ih]
    constructor
    · rintro ⟨h, c, h1, h2⟩; exact ⟨c, ⟨h, h1⟩, h2⟩
    · rintro ⟨c, ⟨h, h1⟩, h2⟩; exact ⟨h, c, h1, h2⟩

theorem Path.append (h : Path f a l c) (k : Path f c m b) : Path f a (l ++ m) b := Path.append_iff.2 ⟨c, h, k⟩

theorem Path.congr (h : Path f a l b) (e : ∀ x ∈ l, g x = f x) : Path g a l b := by
  induction l generalizing a with
  | nil => exact h
  | cons x l ih =>
    obtain ⟨h1, h2⟩ := h
    refine ⟨h1, ?_⟩
    rw [e x (by simp)]
    exact ih h2 fun y hy => e y (by simp [hy])

theorem Path.upd_far (h : Path f a l b) (hx : x ∉ l) (v : Nat) : Path (upd f x v) a l b :=
  h.congr fun _ hy => upd_other _ _ (fun e => hx (e ▸ hy))

/-- The last one leads elsewhere now. -/
theorem Path.upd_last (h : Path f a (l ++ [x]) b) (hx : x ∉ l) (v : Nat) : Path (upd f x v) a (l ++ [x]) v := by
  obtain ⟨c, h1, h2⟩ := Path.append_iff.1 h
  refine (h1.upd_far hx v).append ⟨h2.1, ?_⟩
  rw [upd_same]
  exact rfl

theorem Path.last (h : Path f a (l ++ [x]) b) : f x = b := by
  obtain ⟨c, _, h2⟩ := Path.append_iff.1 h
  exact h2.2

theorem Path.head (h : Path f a (x :: l) b) : a = x := h.1

theorem Path.end_unique (h : Path f a l b) (k : Path f a l c) : b = c := by
  induction l generalizing a with
  | nil => exact h.symm.trans k
  | cons x l ih => exact ih h.2 k.2

/-- f, n times. -/
def iter (f : Nat → Nat) : Nat → Nat → Nat
  | 0, a => a
  | n + 1, a => iter f n (f a)

theorem iter_succ (f : Nat → Nat) (n a : Nat) : iter f (n + 1) a = f (iter f n a) := by
  induction n generalizing a with
  | zero => rfl
  | succ n ih => exact ih (f a)

theorem iter_add (f : Nat → Nat) (m n a : Nat) : iter f (m + n) a = iter f n (iter f m a) := by
  induction m generalizing a with
  | zero => rw [Nat.zero_add]; rfl
  | succ m ih => rw [Nat.succ_add]; exact ih (f a)

theorem Path.iter (h : Path f a l b) : Go.Proofs.Ythgghafndabpfaa.iter f l.length a = b := by
  induction l generalizing a with
  | nil => exact h
  | cons x l ih => obtain ⟨rfl, h2⟩ := h; exact ih h2

/-- Turned by one. -/
theorem Path.turn (h : Path f x (x :: l) x) : Path f (f x) (l ++ [x]) (f x) := h.2.append ⟨rfl, rfl⟩

theorem Path.turns (h : Path f a (l ++ m) a) (hm : m = y :: m.tail) : Path f y (m ++ l) y := by
  obtain ⟨c, h1, h2⟩ := Path.append_iff.1 h
  have e : c = y := by rw [hm] at h2; exact h2.1
  subst e
  exact h2.append h1

/-- Two rings become one: that of s comes in behind r. -/
theorem Path.link {r s p : Nat} {A B : List Nat} (h1 : Path f r (r :: A) r) (h2 : Path f s (B ++ [p]) s) (hr : r ∉ B ++ [p]) (hA : p ∉ A) (hB : p ∉ B) (hrA : r ∉ A) :
    Path (upd (upd f r s) p (f r)) r (r :: (B ++ [p]) ++ A) r := by
  have hrp : r ≠ p := fun e => hr (by simp [e])
  have hrB : r ∉ B := fun e => hr (by simp [e])
  refine ⟨rfl, ?_⟩
  rw [upd_other _ _ hrp, upd_same]
  refine Path.append ((h2.upd_far hr s).upd_last hB (f r)) ?_
  exact (h1.2.upd_far hrA s).upd_far hA (f r)

/-- One ring becomes two: what stands between r and s is out. -/
theorem Path.unlink {r s p : Nat} {A B : List Nat} (h : Path f r (r :: (A ++ [p]) ++ s :: B) r) (hnd : (r :: (A ++ [p]) ++ s :: B).Nodup) :
    Path (upd (upd f r s) p (f r)) r (r :: s :: B) r ∧ Path (upd (upd f r s) p (f r)) (f r) (A ++ [p]) (f r) := by
  rw [List.cons_append, List.nodup_cons, List.nodup_append] at hnd
  obtain ⟨hr, hAp, hsB, hdis⟩ := hnd
  have hrp : r ≠ p := fun e => hr (by simp [e])
  obtain ⟨c, h1, h2⟩ := Path.append_iff.1 h.2
  have ec : c = s := h2.1
  subst ec
  have hpA : p ∉ A := by
    rw [List.nodup_append] at hAp
    exact fun e => hAp.2.2 p e p (by simp) rfl
  have hps : p ∉ c :: B := fun e => hdis p (by simp) p e rfl
  constructor
  · refine ⟨rfl, ?_⟩
    rw [upd_other _ _ hrp, upd_same]
    exact (h2.upd_far (fun e => hr (by simp only [List.mem_append]; exact .inr e)) c).upd_far hps (f r)
  · exact (h1.upd_far (fun e => hr (by simp only [List.mem_append]; exact .inl (by simpa using e))) c).upd_last hpA (f r)

theorem Path.get_zero (h : Path f a l b) (h0 : 0 < l.length) : l[0] = a := by
  cases l with
  | nil => simp at h0
  | cons x l => exact h.1.symm

theorem Path.get_succ (h : Path f a l b) (j : Nat) (hj : j + 1 < l.length) : f l[j] = l[j + 1] := by
  induction l generalizing a j with
  | nil => simp at hj
  | cons x l ih =>
    cases j with
    | zero => exact (Path.get_zero h.2 (by simpa using hj)).symm
    | succ j => exact ih h.2 j (by simpa using hj)

theorem Path.get_last (h : Path f a l b) (h0 : 0 < l.length) : f (l[l.length - 1]'(by omega)) = b := by
  induction l generalizing a with
  | nil => simp at h0
  | cons x l ih =>
    cases l with
    | nil => exact h.2
    | cons y l =>
      have := ih h.2 (by simp)
      simpa using this

/-- One element more behind r. -/
theorem Path.insert {r : Nat} {m : List Nat} (h : Path f a (l ++ r :: m) b) (hl : r ∉ l) (hm : r ∉ m) (hxl : x ∉ l) (hxm : x ∉ m) (hxr : x ≠ r) :
    Path (upd (upd f r x) x (f r)) a (l ++ r :: x :: m) b := by
  obtain ⟨c, h1, h2⟩ := Path.append_iff.1 h
  refine Path.append ((h1.upd_far hl x).upd_far hxl (f r)) ⟨h2.1, ?_⟩
  rw [upd_other _ _ hxr.symm, upd_same]
  refine ⟨rfl, ?_⟩
  rw [upd_same]
  exact (h2.2.upd_far hm x).upd_far hxm (f r)

/-- One element fewer: that behind p. -/
theorem Path.remove {p e : Nat} {m : List Nat} (h : Path f a (l ++ p :: e :: m) b) (hl : p ∉ l) (hm : p ∉ m) : Path (upd f p (f e)) a (l ++ p :: m) b := by
  obtain ⟨c, h1, h2⟩ := Path.append_iff.1 h
  refine Path.append (h1.upd_far hl (f e)) ⟨h2.1, ?_⟩
  rw [upd_same]
  have h3 : Path f (f e) m b := h2.2.2
  exact h3.upd_far hm (f e)
end

end Go.Proofs.Ythgghafndabpfaa
