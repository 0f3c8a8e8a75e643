/- The arguments of a law, opened: what was read as data lies in memory as told. -/
import Derived.Test.YtebkmegkdcnfaaaRows
import Derived.Test.YtebkmegkdcnfaaaMem
import Derived.Test.YtebkmegkdcnfaaaPair
import Derived.Test.YtebkmegkdcnfaaaMove
import Derived.Test.YtebkmegkdcnfaaaRowsS
import Derived.ProofKit
import Derived.OpenShut
import Derived.ChangeOld
import Derived.Deep.Slices
import Derived.Deep.Matrix
import Derived.Deep.Strs
import Derived.Lib.SmallJoins
namespace Go.Proofs.Ytebkmegkdcnfaaa
open Go.ChangeShapes Go.WideShapes Go.ChangeAt Go.RowKit Go.Deep Go.Joins

theorem Try.own : ownKnob Try.prog.godebug = none := by kernel_rfl
theorem Try.laidOut : laidOutB Try.prog = true := by kernel_rfl

theorem addr_plain {w : World} {a : Addr} {u : Value} (h : w.cell? a = some u) : a = ⟨a.block, a.off, none⟩ := by
  obtain ⟨b, o, s⟩ := a
  cases s with
  | none => rfl
  | some x =>
    unfold World.cell? at h
    split at h <;> simp at h

theorem addr_add (b o j : Nat) : (⟨b, o, none⟩ : Addr).add j = ⟨b, o + j, none⟩ := by
  unfold Addr.add
  split
  · subst_vars; rfl
  · rfl

/-- The datum of a slice of n elements. -/
def Form {H : Type} (d : DataW H) (n : Nat) : Prop := n = 0 ∨ ∃ elems spare, d = .slice elems spare ∧ elems.length = n

theorem bulk_pos {H : Type} (d : DataW H) : 1 ≤ Rows.uptoBulk d := by
  cases d with
  | lit l => cases l <;> simp [Rows.uptoBulk]
  | _ => simp [Rows.uptoBulk]
theorem bulkAll_len {H : Type} (l : List (DataW H)) : l.length ≤ Rows.uptoBulkAll l := by
  induction l with
  | nil => simp
  | cons d l ih => have := bulk_pos d; simp [Rows.uptoBulkAll]; omega
theorem Form.upto {H : Type} {d : DataW H} {n : Nat} (h : Form d n) : n ≤ Rows.uptoBulk d := by
  rcases h with rfl | ⟨el, sp, rfl, rfl⟩
  · exact Nat.zero_le _
  · have := bulkAll_len el; simp [Rows.uptoBulk]; omega

theorem intBytes : Try.prog.bytesOf 3 = 8 := by kernel_rfl
theorem Form.sized {H : Type} {d : DataW H} {n j : Nat} {t e : TypeId} {ts : List TypeId} {ds : List (DataW H)} (h : Form d n) (hsz : (DataW.weightsEach Try.prog ts ds).all (· ≤ reachBytes) = true) (ht : ts[j]? = some t) (hd : ds[j]? = some d) (hu : Try.prog.underlying t = some (.slice e)) :
    n * Try.prog.bytesOf e ≤ 140737488351232 := by
  rcases h with rfl | ⟨el, sp, rfl, rfl⟩
  · simp
  · have := sized_slice hsz ht hd hu
    have h2 : el.length * Try.prog.bytesOf e ≤ (el.length + sp.length) * Try.prog.bytesOf e := Nat.mul_le_mul_right _ (by omega)
    simp only [reachBytes] at this
    omega

section
variable {H : Type} {enc : TypeId × Value → H} {W : World} {base : Nat} {t e : TypeId} {v : Value} {d : DataW H} {p : List MemPlace}

/-- A slice whose elements each are read off their cells. -/
theorem sl_of_cells {w : World} {a : Addr} {len cap sz : Nat} {cs : List Value} (hl : len ≤ cap) (hm : cap ≤ maxLen) (hs : 0 < sz) (hcs : cs.length = len * sz) (hc : ∀ j u, cs[j]? = some u → w.cell? (a.add j) = some u) :
    Sl w sz (.slice (some a) len cap) len cs := by
  refine ⟨hcs, _, _, rfl, hl, hm, fun hn => ?_⟩
  have h0 : 0 < cs.length := by rw [hcs]; exact Nat.mul_pos hn hs
  have h1 := hc 0 cs[0] (List.getElem?_eq_getElem h0)
  have h2 := addr_plain h1
  simp only [Addr.add, if_true] at h2
  refine ⟨a.block, a.off, by rw [← h2], fun j u hu => ?_⟩
  have h3 := hc j u hu
  rw [h2, addr_add] at h3
  exact h3

theorem open_intsS (ht : Try.prog.underlying t = some (.slice 3)) (hv : Value.okWide Try.prog W .any base t v) (h : DataW.Trod enc Try.prog W 0 (fun _ => true) true t v d p) : ∃ xs, Ints W v xs ∧ Form d xs.length := by
  obtain ⟨a0, len0, cap0, rfl⟩ := okWide_slice ht hv
  obtain ⟨fuel, hf⟩ := h
  rcases open_ints ht Try.underlying3 (by kernel_rfl) hf with ⟨hcs, _⟩ | ⟨x, l, c, zs, hcs, _, hl, hm, hz, hx, hcell, hwz⟩
  · simp [Value.cells] at hcs
    obtain ⟨rfl, rfl, rfl⟩ := hcs
    exact ⟨[], ⟨by simp, _, _, rfl, Nat.le_refl _, Nat.zero_le _, fun h => absurd h (by simp)⟩, .inl rfl⟩
  · simp [Value.cells] at hcs
    obtain ⟨rfl, rfl, rfl⟩ := hcs
    have hz' : zs.length = cap0 := by simpa using hz
    have hlen : (zs.take len0).length = len0 := by rw [List.length_take]; omega
    refine ⟨zs.take len0, ?_, .inr ?_⟩
    rotate_left
    · simp only [Prod.mk.injEq] at hx
      exact ⟨_, _, hx.1, by simp [lits]⟩
    unfold Ints
    rw [hlen]
    refine sl_of_cells hl hm (by omega) (by rw [List.length_map, hlen]; omega) fun j u hu => ?_
    rw [List.getElem?_map, List.getElem?_take] at hu
    split at hu
    · have hj : j < zs.length := by omega
      rw [hcell j hj, List.getD_eq_getElem?_getD]
      rw [List.getElem?_eq_getElem hj] at hu ⊢
      simpa using hu
    · simp at hu

/-- A slice of structs of two ints. -/
theorem open_pairsS (ht : Try.prog.underlying t = some (.slice e)) {f0 f1 : Field} (he : Try.prog.underlying e = some (.struct #[f0, f1])) (hf0 : f0.type = 3) (hf1 : f1.type = 3) (ho0 : f0.offset = 0) (ho1 : f1.offset = 1) (hC : Try.prog.cellsOf e = 2) (hC1 : Try.prog.cellsOf 3 = 1)
    (hv : Value.okWide Try.prog W .any base t v) (h : DataW.Trod enc Try.prog W 0 (fun _ => true) true t v d p) : ∃ ps, Prs W v ps ∧ Form d ps.length := by
  obtain ⟨a0, len0, cap0, rfl⟩ := okWide_slice ht hv
  obtain ⟨fuel, hf⟩ := h
  rcases open_slice ht hf with ⟨hcs, _⟩ | ⟨x, l, c, m, n, D, Pl, hcs, _, hl, hm, hmm, hx, hcell⟩
  · simp [Value.cells] at hcs
    obtain ⟨rfl, rfl, rfl⟩ := hcs
    exact ⟨[], ⟨by simp [pcells], _, _, rfl, Nat.le_refl _, Nat.zero_le _, fun h => absurd h (by simp)⟩, .inl rfl⟩
  · simp [Value.cells] at hcs
    obtain ⟨rfl, rfl, rfl⟩ := hcs
    simp only [if_true] at hmm
    subst hmm
    have each : ∀ i, i < m → ∃ q : Int × Int, W.cell? (x.add (i * 2)) = some (.int .i64 q.1) ∧ W.cell? (x.add (i * 2 + 1)) = some (.int .i64 q.2) := by
      intro i hi
      obtain ⟨cs', hc, htr⟩ := hcell i hi
      rw [hC] at hc
      obtain ⟨_, hcl, hat⟩ := World.cells?_some hc
      obtain ⟨y0, y1, n', _, _, h0, h1⟩ := trod_struct2 he htr
      rw [hf0, ho0, hC1] at h0
      rw [hf1, ho1, hC1] at h1
      obtain ⟨q0, e0, _, _⟩ := DataW.trod_int Try.underlying3 h0
      obtain ⟨q1, e1, _, _⟩ := DataW.trod_int Try.underlying3 h1
      match cs', hcl with
      | [c0, c1], _ =>
        simp at e0 e1
        subst e0 e1
        refine ⟨(q0, q1), ?_, ?_⟩
        · have := hat 0 (by omega)
          rw [Go.Deep.add_add] at this
          exact this
        · have := hat 1 (by omega)
          rw [Go.Deep.add_add] at this
          exact this
    obtain ⟨f, hf'⟩ : ∃ f : Nat → Int × Int, ∀ i, i < m → W.cell? (x.add (i * 2)) = some (.int .i64 (f i).1) ∧ W.cell? (x.add (i * 2 + 1)) = some (.int .i64 (f i).2) :=
      ⟨fun i => if hi : i < m then (each i hi).choose else (0, 0), fun i hi => by simp only [hi, dif_pos]; exact (each i hi).choose_spec⟩
    have hlen : ((List.range len0).map f).length = len0 := by simp
    refine ⟨(List.range len0).map f, ?_, .inr ?_⟩
    rotate_left
    · simp only [Prod.mk.injEq] at hx
      exact ⟨_, _, hx.1, by simp⟩
    unfold Prs
    rw [hlen]
    refine sl_of_cells hl hm (by omega) (by rw [pcells_len, hlen]) fun j u hu => ?_
    have hj : j < len0 * 2 := by
      have := (List.getElem?_eq_some_iff.1 hu).1
      rw [pcells_len, hlen] at this
      exact this
    obtain ⟨c0, c1⟩ := hf' (j / 2) (by omega)
    rcases Nat.mod_two_eq_zero_or_one j with hp | hp
    · have ej : j = j / 2 * 2 := by omega
      rw [ej, pcells_get0 _ _ (by rw [hlen]; omega)] at hu
      rw [ej, c0, ← hu]
      simp
    · have ej : j = j / 2 * 2 + 1 := by omega
      rw [ej, pcells_get1 _ _ (by rw [hlen]; omega)] at hu
      rw [ej, c1, ← hu]
      simp


/-- A slice of structs of three ints. -/
theorem open_movesS (ht : Try.prog.underlying t = some (.slice e)) {f0 f1 f2 : Field} (he : Try.prog.underlying e = some (.struct #[f0, f1, f2])) (hf0 : f0.type = 3) (hf1 : f1.type = 3) (hf2 : f2.type = 3) (ho0 : f0.offset = 0) (ho1 : f1.offset = 1) (ho2 : f2.offset = 2) (hC : Try.prog.cellsOf e = 3) (hC1 : Try.prog.cellsOf 3 = 1)
    (hv : Value.okWide Try.prog W .any base t v) (h : DataW.Trod enc Try.prog W 0 (fun _ => true) true t v d p) : ∃ ps, Mvs W v ps ∧ Form d ps.length := by
  obtain ⟨a0, len0, cap0, rfl⟩ := okWide_slice ht hv
  obtain ⟨fuel, hf⟩ := h
  rcases open_slice ht hf with ⟨hcs, _⟩ | ⟨x, l, c, m, n, D, Pl, hcs, _, hl, hm, hmm, hx, hcell⟩
  · simp [Value.cells] at hcs
    obtain ⟨rfl, rfl, rfl⟩ := hcs
    exact ⟨[], ⟨by simp [mcells], _, _, rfl, Nat.le_refl _, Nat.zero_le _, fun h => absurd h (by simp)⟩, .inl rfl⟩
  · simp [Value.cells] at hcs
    obtain ⟨rfl, rfl, rfl⟩ := hcs
    simp only [if_true] at hmm
    subst hmm
    have each : ∀ i, i < m → ∃ q : Mv, W.cell? (x.add (i * 3)) = some (.int .i64 q.1) ∧ W.cell? (x.add (i * 3 + 1)) = some (.int .i64 q.2.1) ∧ W.cell? (x.add (i * 3 + 2)) = some (.int .i64 q.2.2) := by
      intro i hi
      obtain ⟨cs', hc, htr⟩ := hcell i hi
      rw [hC] at hc
      obtain ⟨_, hcl, hat⟩ := World.cells?_some hc
      obtain ⟨y0, y1, y2, n', _, _, h0, h1, h2⟩ := trod_struct3 he htr
      rw [hf0, ho0, hC1] at h0
      rw [hf1, ho1, hC1] at h1
      rw [hf2, ho2, hC1] at h2
      obtain ⟨q0, e0, _, _⟩ := DataW.trod_int Try.underlying3 h0
      obtain ⟨q1, e1, _, _⟩ := DataW.trod_int Try.underlying3 h1
      obtain ⟨q2, e2, _, _⟩ := DataW.trod_int Try.underlying3 h2
      match cs', hcl with
      | [c0, c1, c2], _ =>
        simp at e0 e1 e2
        subst e0 e1 e2
        refine ⟨(q0, q1, q2), ?_, ?_, ?_⟩
        · have := hat 0 (by omega)
          rw [Go.Deep.add_add] at this
          exact this
        · have := hat 1 (by omega)
          rw [Go.Deep.add_add] at this
          exact this
        · have := hat 2 (by omega)
          rw [Go.Deep.add_add] at this
          exact this
    obtain ⟨f, hf'⟩ : ∃ f : Nat → Mv, ∀ i, i < m → W.cell? (x.add (i * 3)) = some (.int .i64 (f i).1) ∧ W.cell? (x.add (i * 3 + 1)) = some (.int .i64 (f i).2.1) ∧ W.cell? (x.add (i * 3 + 2)) = some (.int .i64 (f i).2.2) :=
      ⟨fun i => if hi : i < m then (each i hi).choose else (0, 0, 0), fun i hi => by simp only [hi, dif_pos]; exact (each i hi).choose_spec⟩
    have hlen : ((List.range len0).map f).length = len0 := by simp
    refine ⟨(List.range len0).map f, ?_, .inr ?_⟩
    rotate_left
    · simp only [Prod.mk.injEq] at hx
      exact ⟨_, _, hx.1, by simp⟩
    unfold Mvs
    rw [hlen]
    refine sl_of_cells hl hm (by omega) (by rw [mcells_len, hlen]) fun j u hu => ?_
    have hj : j < len0 * 3 := by
      have := (List.getElem?_eq_some_iff.1 hu).1
      rw [mcells_len, hlen] at this
      exact this
    obtain ⟨c0, c1, c2⟩ := hf' (j / 3) (by omega)
    rcases (by omega : j % 3 = 0 ∨ j % 3 = 1 ∨ j % 3 = 2) with hp | hp | hp
    · have ej : j = j / 3 * 3 := by omega
      rw [ej, mcells_get0 _ _ (by rw [hlen]; omega)] at hu
      rw [ej, c0, ← hu]
      simp
    · have ej : j = j / 3 * 3 + 1 := by omega
      rw [ej, mcells_get1 _ _ (by rw [hlen]; omega)] at hu
      rw [ej, c1, ← hu]
      simp
    · have ej : j = j / 3 * 3 + 2 := by omega
      rw [ej, mcells_get2 _ _ (by rw [hlen]; omega)] at hu
      rw [ej, c2, ← hu]
      simp


/-- The datum of a slice of slices. -/
def FormSS {H : Type} (d : DataW H) (rows : List (List Int)) : Prop := bulk rows ≤ Rows.uptoBulk d

theorem intRow_bulk {k : IntKind} (A : Option Addr) (n : Nat) (Z : List Int) (hA : A = none → n = 0) (hn : n ≤ Z.length) : n + 1 ≤ Rows.uptoBulk (intRow (H := H) k A n Z) := by
  cases A with
  | none => rw [hA rfl]; exact bulk_pos _
  | some a =>
    have h1 := bulkAll_len ((lits (H := H) k (Z.take n)))
    simp only [lits, List.length_map, List.length_take] at h1
    simp only [intRow, Rows.uptoBulk, lits]
    omega

theorem sum_bulk {D : Nat → DataW H} {f : Nat → Nat} (n : Nat) (h : ∀ i, i < n → f i + 1 ≤ Rows.uptoBulk (D i)) : n + ((List.range n).map f).sum ≤ Rows.uptoBulkAll ((List.range n).map D) := by
  have key : ∀ (l : List Nat), (∀ i ∈ l, f i + 1 ≤ Rows.uptoBulk (D i)) → l.length + (l.map f).sum ≤ Rows.uptoBulkAll (l.map D) := by
    intro l
    induction l with
    | nil => intro _; simp [Rows.uptoBulkAll]
    | cons x l ih =>
      intro hl
      have h1 := ih fun i hi => hl i (by simp [hi])
      have h2 := hl x (by simp)
      simp only [List.map_cons, List.sum_cons, List.length_cons, Rows.uptoBulkAll]
      omega
  have := key (List.range n) fun i hi => h i (List.mem_range.1 hi)
  simpa using this

/-- A slice of slices of ints. -/
theorem open_rowsS (ht : Try.prog.underlying t = some (.slice 23)) (hv : Value.okWide Try.prog W .any base t v) (h : DataW.Trod enc Try.prog W 0 (fun _ => true) true t v d p) : ∃ rows, Rowss W v rows ∧ FormSS d rows := by
  obtain ⟨a0, len0, cap0, rfl⟩ := okWide_slice ht hv
  obtain ⟨fuel, hf⟩ := h
  rcases open_int_rows ht Try.underlying23 Try.underlying3 (by kernel_rfl) (by kernel_rfl) hf with ⟨hcs, _⟩ | ⟨x, l, c, A, Ln, C, Z, hcs, _, hl, hm, hx, hcell⟩
  · simp [Value.cells] at hcs
    obtain ⟨rfl, rfl, rfl⟩ := hcs
    exact ⟨[], ⟨[], ⟨by simp, _, _, rfl, Nat.le_refl _, Nat.zero_le _, fun h => absurd h (by simp)⟩, fun k hk => absurd hk (by simp)⟩, Nat.zero_le _⟩
  · simp [Value.cells] at hcs
    obtain ⟨rfl, rfl, rfl⟩ := hcs
    have hlen : ((List.range len0).map fun r => (Z r).take (Ln r)).length = len0 := by simp
    refine ⟨(List.range len0).map fun r => (Z r).take (Ln r), ⟨(List.range len0).map fun r => Value.slice (A r) (Ln r) (C r), ?_, fun k hk => ?_⟩, ?_⟩
    · rw [hlen]
      refine sl_of_cells hl hm (by omega) (by simp) fun j u hu => ?_
      rw [List.getElem?_map] at hu
      have hj : j < len0 := by
        rcases Nat.lt_or_ge j len0 with h | h
        · exact h
        · rw [List.getElem?_eq_none (by simpa using h)] at hu; simp at hu
      rw [List.getElem?_range hj] at hu
      simp at hu
      rw [(hcell j (by omega)).1, hu]
    · rw [hlen] at hk
      obtain ⟨h1, h2, h3, h4, _, h6, h7⟩ := hcell k (by omega)
      refine ⟨.slice (A k) (Ln k) (C k), by simp [hk], ?_⟩
      have e : ((List.range len0).map fun r => (Z r).take (Ln r))[k] = (Z k).take (Ln k) := by simp
      rw [e]
      have hlk : ((Z k).take (Ln k)).length = Ln k := by rw [List.length_take]; omega
      unfold Ints
      rw [hlk]
      cases hA : A k with
      | none =>
        have h0 : C k = 0 := h6 hA
        have hL0 : Ln k = 0 := by omega
        rw [hL0, h0]
        exact ⟨by simp, _, _, rfl, Nat.le_refl _, Nat.zero_le _, fun h => absurd h (by omega)⟩
      | some a' =>
        obtain ⟨_, h8⟩ := h7 a' hA
        refine sl_of_cells h2 h3 (by omega) (by rw [List.length_map, hlk]; omega) fun j u hu => ?_
        rw [List.getElem?_map, List.getElem?_take] at hu
        split at hu
        · have hj : j < (Z k).length := by omega
          rw [h8 j (by omega), List.getD_eq_getElem?_getD]
          rw [List.getElem?_eq_getElem hj] at hu ⊢
          simpa using hu
        · simp at hu
    · simp only [Prod.mk.injEq] at hx
      unfold FormSS
      rw [hx.1]
      have h1 := sum_bulk (D := fun r => intRow (H := H) .i64 (A r) (Ln r) (Z r)) (f := fun r => Ln r) len0 (fun i hi => by
        obtain ⟨_, h2, _, h4, _, h6, _⟩ := hcell i (by omega)
        exact intRow_bulk _ _ _ (fun hA => by have := h6 hA; omega) (by omega))
      have h2 : bulk ((List.range len0).map fun r => (Z r).take (Ln r)) = len0 + ((List.range len0).map fun r => Ln r).sum := by
        unfold bulk
        rw [hlen, List.map_map]
        congr 2
        apply List.map_congr_left
        intro i hi
        obtain ⟨_, h2, _, h4, _⟩ := hcell i (by have := List.mem_range.1 hi; omega)
        simp only [Function.comp, List.length_take]
        omega
      rw [h2]
      simp only [Rows.uptoBulk]
      omega

/-- A struct of two ints, by value. -/
theorem open_pairV {f0 f1 : Field} (he : Try.prog.underlying t = some (.struct #[f0, f1])) (hf0 : f0.type = 3) (hf1 : f1.type = 3) (hone : oneCellFields Try.prog #[f0, f1] = true) (hC : Try.prog.cellsOf t = 2)
    (hv : Value.okWide Try.prog W .any base t v) (h : DataW.Trod enc Try.prog W 0 (fun _ => true) true t v d p) : ∃ a b : Int, v = .agg #[.int .i64 a, .int .i64 b] := by
  obtain ⟨v0, v1, y0, y1, n, rfl, _, _, h0, h1⟩ := open_agg2 he hone hC hv h
  rw [hf0] at h0
  rw [hf1] at h1
  obtain ⟨q0, e0, _, _⟩ := DataW.trod_int Try.underlying3 h0
  obtain ⟨q1, e1, _, _⟩ := DataW.trod_int Try.underlying3 h1
  simp at e0 e1
  subst e0 e1
  exact ⟨q0, q1, rfl⟩
end

end Go.Proofs.Ytebkmegkdcnfaaa
