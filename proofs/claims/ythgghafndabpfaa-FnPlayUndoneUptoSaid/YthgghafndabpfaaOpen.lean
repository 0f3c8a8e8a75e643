/- The arguments of a law, opened: what was read as data lies in memory as told. -/
import Derived.Test.YthgghafndabpfaaRows
import Derived.Test.YthgghafndabpfaaMem
import Derived.Test.YthgghafndabpfaaMove
import Derived.ProofKit
import Derived.OpenShut
import Derived.ChangeOld
import Derived.Deep.Slices
import Derived.Deep.Matrix
import Derived.Deep.Strs
import Derived.Lib.SmallJoins
namespace Go.Proofs.Ythgghafndabpfaa
open Go.ChangeShapes Go.WideShapes Go.ChangeAt Go.RowKit Go.Deep Go.Joins

theorem Try.own : ownKnob Try.prog.godebug = none := by kernel_rfl
theorem Try.laidOut : laidOutB Try.prog = true := by kernel_rfl

theorem addr_plain {w : World} {a : Addr} {u : Value} (h : w.cell? a = some u) : a = ⟨a.block, a.off, none⟩ := by
  obtain ⟨b, o, s⟩ := a
  cases s with
  | none => rfl
  | some x =>
    unfold World.cell? at h
    split at h <;> simp at h

theorem addr_add (b o j : Nat) : (⟨b, o, none⟩ : Addr).add j = ⟨b, o + j, none⟩ := by
  unfold Addr.add
  split
  · subst_vars; rfl
  · rfl

/-- The datum of a slice of n elements. -/
def Form {H : Type} (d : DataW H) (n : Nat) : Prop := n = 0 ∨ ∃ elems spare, d = .slice elems spare ∧ elems.length = n

theorem bulk_pos {H : Type} (d : DataW H) : 1 ≤ Rows.uptoBulk d := by
  cases d with
  | lit l => cases l <;> simp [Rows.uptoBulk]
  | _ => simp [Rows.uptoBulk]
theorem bulkAll_len {H : Type} (l : List (DataW H)) : l.length ≤ Rows.uptoBulkAll l := by
  induction l with
  | nil => simp
  | cons d l ih => have := bulk_pos d; simp [Rows.uptoBulkAll]; omega
theorem Form.upto {H : Type} {d : DataW H} {n : Nat} (h : Form d n) : n ≤ Rows.uptoBulk d := by
  rcases h with rfl | ⟨el, sp, rfl, rfl⟩
  · exact Nat.zero_le _
  · have := bulkAll_len el; simp [Rows.uptoBulk]; omega

theorem intBytes : Try.prog.bytesOf 3 = 8 := by kernel_rfl
theorem Form.sized {H : Type} {d : DataW H} {n j : Nat} {t e : TypeId} {ts : List TypeId} {ds : List (DataW H)} (h : Form d n) (hsz : (DataW.weightsEach Try.prog ts ds).all (· ≤ reachBytes) = true) (ht : ts[j]? = some t) (hd : ds[j]? = some d) (hu : Try.prog.underlying t = some (.slice e)) :
    n * Try.prog.bytesOf e ≤ 140737488351232 := by
  rcases h with rfl | ⟨el, sp, rfl, rfl⟩
  · simp
  · have := sized_slice hsz ht hd hu
    have h2 : el.length * Try.prog.bytesOf e ≤ (el.length + sp.length) * Try.prog.bytesOf e := Nat.mul_le_mul_right _ (by omega)
    simp only [reachBytes] at this
    omega

section
variable {H : Type} {enc : TypeId × Value → H} {W : World} {base : Nat} {t e : TypeId} {v : Value} {d : DataW H} {p : List MemPlace}

/-- A slice whose elements each are read off their cells. -/
theorem sl_of_cells {w : World} {a : Addr} {len cap sz : Nat} {cs : List Value} (hl : len ≤ cap) (hm : cap ≤ maxLen) (hs : 0 < sz) (hcs : cs.length = len * sz) (hc : ∀ j u, cs[j]? = some u → w.cell? (a.add j) = some u) :
    Sl w sz (.slice (some a) len cap) len cs := by
  refine ⟨hcs, _, _, rfl, hl, hm, fun hn => ?_⟩
  have h0 : 0 < cs.length := by rw [hcs]; exact Nat.mul_pos hn hs
  have h1 := hc 0 cs[0] (List.getElem?_eq_getElem h0)
  have h2 := addr_plain h1
  simp only [Addr.add, if_true] at h2
  refine ⟨a.block, a.off, by rw [← h2], fun j u hu => ?_⟩
  have h3 := hc j u hu
  rw [h2, addr_add] at h3
  exact h3

theorem open_intsS (ht : Try.prog.underlying t = some (.slice 3)) (hv : Value.okWide Try.prog W .any base t v) (h : DataW.Trod enc Try.prog W 0 (fun _ => true) true t v d p) : ∃ xs, Ints W v xs ∧ Form d xs.length := by
  obtain ⟨a0, len0, cap0, rfl⟩ := okWide_slice ht hv
  obtain ⟨fuel, hf⟩ := h
  rcases open_ints ht Try.underlying3 (by kernel_rfl) hf with ⟨hcs, _⟩ | ⟨x, l, c, zs, hcs, _, hl, hm, hz, hx, hcell, hwz⟩
  · simp [Value.cells] at hcs
    obtain ⟨rfl, rfl, rfl⟩ := hcs
    exact ⟨[], ⟨by simp, _, _, rfl, Nat.le_refl _, Nat.zero_le _, fun h => absurd h (by simp)⟩, .inl rfl⟩
  · simp [Value.cells] at hcs
    obtain ⟨rfl, rfl, rfl⟩ := hcs
    have hz' : zs.length = cap0 := by simpa using hz
    have hlen : (zs.take len0).length = len0 := by rw [List.length_take]; omega
    refine ⟨zs.take len0, ?_, .inr ?_⟩
    rotate_left
    · simp only [Prod.mk.injEq] at hx
      exact ⟨_, _, hx.1, by simp [lits]⟩
    unfold Ints
    rw [hlen]
    refine sl_of_cells hl hm (by omega) (by rw [List.length_map, hlen]; omega) fun j u hu => ?_
    rw [List.getElem?_map, List.getElem?_take] at hu
    split at hu
    · have hj : j < zs.length := by omega
      rw [hcell j hj, List.getD_eq_getElem?_getD]
      rw [List.getElem?_eq_getElem hj] at hu ⊢
      simpa using hu
    · simp at hu


/-- A slice of structs of three ints. -/
theorem open_movesS (ht : Try.prog.underlying t = some (.slice e)) {f0 f1 f2 : Field} (he : Try.prog.underlying e = some (.struct #[f0, f1, f2])) (hf0 : f0.type = 3) (hf1 : f1.type = 3) (hf2 : f2.type = 3) (ho0 : f0.offset = 0) (ho1 : f1.offset = 1) (ho2 : f2.offset = 2) (hC : Try.prog.cellsOf e = 3) (hC1 : Try.prog.cellsOf 3 = 1)
    (hv : Value.okWide Try.prog W .any base t v) (h : DataW.Trod enc Try.prog W 0 (fun _ => true) true t v d p) : ∃ ps, Mvs W v ps ∧ Form d ps.length := by
  obtain ⟨a0, len0, cap0, rfl⟩ := okWide_slice ht hv
  obtain ⟨fuel, hf⟩ := h
  rcases open_slice ht hf with ⟨hcs, _⟩ | ⟨x, l, c, m, n, D, Pl, hcs, _, hl, hm, hmm, hx, hcell⟩
  · simp [Value.cells] at hcs
    obtain ⟨rfl, rfl, rfl⟩ := hcs
    exact ⟨[], ⟨by simp [mcells], _, _, rfl, Nat.le_refl _, Nat.zero_le _, fun h => absurd h (by simp)⟩, .inl rfl⟩
  · simp [Value.cells] at hcs
    obtain ⟨rfl, rfl, rfl⟩ := hcs
    simp only [if_true] at hmm
    subst hmm
    have each : ∀ i, i < m → ∃ q : Mv, W.cell? (x.add (i * 3)) = some (.int .i64 q.1) ∧ W.cell? (x.add (i * 3 + 1)) = some (.int .i64 q.2.1) ∧ W.cell? (x.add (i * 3 + 2)) = some (.int .i64 q.2.2) := by
      intro i hi
      obtain ⟨cs', hc, htr⟩ := hcell i hi
      rw [hC] at hc
      obtain ⟨_, hcl, hat⟩ := World.cells?_some hc
      obtain ⟨y0, y1, y2, n', _, _, h0, h1, h2⟩ := trod_struct3 he htr
      rw [hf0, ho0, hC1] at h0
      rw [hf1, ho1, hC1] at h1
      rw [hf2, ho2, hC1] at h2
      obtain ⟨q0, e0, _, _⟩ := DataW.trod_int Try.underlying3 h0
      obtain ⟨q1, e1, _, _⟩ := DataW.trod_int Try.underlying3 h1
      obtain ⟨q2, e2, _, _⟩ := DataW.trod_int Try.underlying3 h2
      match cs', hcl with
      | [c0, c1, c2], _ =>
        simp at e0 e1 e2
        subst e0 e1 e2
        refine ⟨(q0, q1, q2), ?_, ?_, ?_⟩
        · have := hat 0 (by omega)
          rw [Go.Deep.add_add] at this
          exact this
        · have := hat 1 (by omega)
          rw [Go.Deep.add_add] at this
          exact this
        · have := hat 2 (by omega)
          rw [Go.Deep.add_add] at this
          exact this
    obtain ⟨f, hf'⟩ : ∃ f : Nat → Mv, ∀ i, i < m → W.cell? (x.add (i * 3)) = some (.int .i64 (f i).1) ∧ W.cell? (x.add (i * 3 + 1)) = some (.int .i64 (f i).2.1) ∧ W.cell? (x.add (i * 3 + 2)) = some (.int .i64 (f i).2.2) :=
      ⟨fun i => if hi : i < m then (each i hi).choose else (0, 0, 0), fun i hi => by simp only [hi, dif_pos]; exact (each i hi).choose_spec⟩
    have hlen : ((List.range len0).map f).length = len0 := by simp
    refine ⟨(List.range len0).map f, ?_, .inr ?_⟩
    rotate_left
    · simp only [Prod.mk.injEq] at hx
      exact ⟨_, _, hx.1, by simp⟩
    unfold Mvs
    rw [hlen]
    refine sl_of_cells hl hm (by omega) (by rw [mcells_len, hlen]) fun j u hu => ?_
    have hj : j < len0 * 3 := by
      have := (List.getElem?_eq_some_iff.1 hu).1
      rw [mcells_len, hlen] at this
      exact this
    obtain ⟨c0, c1, c2⟩ := hf' (j / 3) (by omega)
    rcases (by omega : j % 3 = 0 ∨ j % 3 = 1 ∨ j % 3 = 2) with hp | hp | hp
    · have ej : j = j / 3 * 3 := by omega
      rw [ej, mcells_get0 _ _ (by rw [hlen]; omega)] at hu
      rw [ej, c0, ← hu]
      simp
    · have ej : j = j / 3 * 3 + 1 := by omega
      rw [ej, mcells_get1 _ _ (by rw [hlen]; omega)] at hu
      rw [ej, c1, ← hu]
      simp
    · have ej : j = j / 3 * 3 + 2 := by omega
      rw [ej, mcells_get2 _ _ (by rw [hlen]; omega)] at hu
      rw [ej, c2, ← hu]
      simp



end

end Go.Proofs.Ythgghafndabpfaa
